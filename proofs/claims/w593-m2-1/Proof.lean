import JvmDerived
import JvmDerived.Pilot.@@N@@Statement
import JvmDerived.Pilot.@@N@@Code
set_option linter.unusedVariables false
set_option linter.unusedSimpArgs false
/- laws to paste: Road.backV, Road.eqW (cut by pick.py; bodies as the Statement names them) -/
namespace Jvm.Pilot.@@N@@
namespace StrChars
open Jvm Sem ClassFile Op Lib Jvm.Stand Jvm.Free.XT Jvm.Free.ALB Jvm.Free.JM Jvm.Free
open Jvm.Lib.Cold (StaticIs)
/-- a char array whose places are chars -/
def Ch (a : Addr) (A : Cell) (U : State) : Prop := Arr .char a A U ∧ Typed .char A
theorem Ch.mv {a : Addr} {A : Cell} {U U' : State} (h : Ch a A U) (hal : U.vm.Alike U'.vm) (hh : U'.heap = U.heap) : Ch a A U' := ⟨h.1.mv hal hh, h.2⟩
theorem Ch.keep {a : Addr} {A : Cell} {U U' : State} (h : Ch a A U) (hal : U.vm.Alike U'.vm) (hk : U'.heap[a]? = some A) : Ch a A U' := ⟨h.1.keep hal hk, h.2⟩
/-- what place i of a char[]'s cell holds -/
def cv (A : Cell) (i : Nat) : Int32 := match A.slots[i]? with | some (.int x) => x | _ => 0
theorem Ch.get {a : Addr} {A : Cell} {U : State} (h : Ch a A U) {i : Nat} (hi : i < A.slots.size) : A.slots[i]? = some (.int (cv A i)) := by
  have e := Array.getElem?_eq_getElem hi
  have f := h.2 i _ e
  unfold cv; rw [e]
  generalize A.slots[i] = v at f
  cases v <;> simp [fits] at f ⊢
/-- the byte that i2b leaves of a char -/
def lo8 (x : Int32) : Int32 := x.toInt8.toInt32
theorem fits_lo8 (y : Int32) : fits .byte (.int (lo8 y)) = true := by
  have h1 := y.toInt8.le_toInt
  have h2 := y.toInt8.toInt_lt
  simp only [lo8, fits, Bool.and_eq_true, decide_eq_true_eq, Int32.le_iff_toInt_le, Int8.toInt_toInt32, show (-128 : Int32).toInt = -128 from by decide, show (127 : Int32).toInt = 127 from by decide]
  omega
/-- A' is A but that each place j of lo .. hi - 1 holds f j -/
def Laid (A A' : Cell) (lo hi : Nat) (f : Nat → Value) : Prop := A'.cls = A.cls ∧ A'.vm = A.vm ∧ A'.slots.size = A.slots.size ∧ ∀ i, A'.slots[i]? = if lo ≤ i ∧ i < hi then some (f i) else A.slots[i]?
theorem Laid.zero (A : Cell) (lo : Nat) (f : Nat → Value) : Laid A A lo (lo + 0) f := ⟨rfl, rfl, rfl, fun i => by rw [if_neg (by omega)]⟩
theorem Laid.step {A Ak : Cell} {lo k : Nat} {f : Nat → Value} {v : Value} (h : Laid A Ak lo k f) (hlo : lo ≤ k) (hk : k < Ak.slots.size) (hv : v = f k) : Laid A (Ak.setSlot k v) lo (k + 1) f := by
  refine ⟨h.1, h.2.1, by simpa [Cell.setSlot] using h.2.2.1, fun i => ?_⟩
  by_cases e : k = i
  · subst e; rw [Cell.slots_setSlot_self v hk, if_pos (by omega), hv]
  · rw [Cell.slots_setSlot_ne v e, h.2.2.2 i]
    by_cases q : lo ≤ i ∧ i < k
    · rw [if_pos q, if_pos (by omega)]
    · rw [if_neg q, if_neg (by omega)]
def U16 : String := "java/lang/StringUTF16"
namespace Cmp5
def yN : MethodName := ⟨"java/lang/StringUTF16", "compress", "([CI[BII)I"⟩
abbrev yB : ByteArray := jdk_52_method_21_code
theorem d0 : decode yB 0 = .ok (.iconst 0, 1) := by decide +kernel
theorem d1 : decode yB 1 = .ok (.istore 5, 2) := by decide +kernel
theorem d3 : decode yB 3 = .ok (.iload 5, 2) := by decide +kernel
theorem d5 : decode yB 5 = .ok (.iload 4, 2) := by decide +kernel
theorem d7 : decode yB 7 = .ok (.if_icmp (.ge) 37, 3) := by decide +kernel
theorem d10 : decode yB 10 = .ok (.aload_n 0, 1) := by decide +kernel
theorem d11 : decode yB 11 = .ok (.iload_n 1, 1) := by decide +kernel
theorem d12 : decode yB 12 = .ok (.caload, 1) := by decide +kernel
theorem d13 : decode yB 13 = .ok (.istore 6, 2) := by decide +kernel
theorem d15 : decode yB 15 = .ok (.iload 6, 2) := by decide +kernel
theorem d17 : decode yB 17 = .ok (.sipush 255, 3) := by decide +kernel
theorem d20 : decode yB 20 = .ok (.if_icmp (.le) 6, 3) := by decide +kernel
theorem d26 : decode yB 26 = .ok (.aload_n 2, 1) := by decide +kernel
theorem d27 : decode yB 27 = .ok (.iload_n 3, 1) := by decide +kernel
theorem d28 : decode yB 28 = .ok (.iload 6, 2) := by decide +kernel
theorem d30 : decode yB 30 = .ok (.i2b, 1) := by decide +kernel
theorem d31 : decode yB 31 = .ok (.bastore, 1) := by decide +kernel
theorem d32 : decode yB 32 = .ok (.iinc 1 1, 3) := by decide +kernel
theorem d35 : decode yB 35 = .ok (.iinc 3 1, 3) := by decide +kernel
theorem d38 : decode yB 38 = .ok (.iinc 5 1, 3) := by decide +kernel
theorem d41 : decode yB 41 = .ok (.goto (-38), 3) := by decide +kernel
theorem d44 : decode yB 44 = .ok (.iload 4, 2) := by decide +kernel
theorem d46 : decode yB 46 = .ok (.ireturn, 1) := by decide +kernel
def site : List Cond := []
def tab : Cond := tabOf yN yB 7 (some .int) site
def P (b : Addr) (A : Cell) (d : Addr) (B : Cell) (o q len : Nat) (args : Array Value) (s : State) : Prop := args = #[.ref b, .int (Int32.ofNat o), .ref d, .int (Int32.ofNat q), .int (Int32.ofNat len)] ∧ Ch b A s ∧ Arr .byte d B s ∧ b ≠ d ∧ o + len ≤ A.slots.size ∧ q + len ≤ B.slots.size ∧ ∀ i, i < len → ¬ 255 < cv A (o + i)
def E (b : Addr) (A : Cell) (d : Addr) (B : Cell) (o q len : Nat) (r : Option Value) (s u : State) : Prop := r = some (.int (Int32.ofNat len)) ∧ ∃ B', Put d B' s u ∧ Laid B B' q (q + len) (fun j => Value.int (lo8 (cv A (o + (j - q)))))
/-- no char of the range above 255: len; the places written hold each char's low byte -/
theorem law (l : Launch) (b : Addr) (A : Cell) (d : Addr) (B : Cell) (o q len : Nat) : Law l yN 5 5 0 0 yB 7 (some .int) site (P b A d B o q len) (E b A d B o q len) (copyLocs d q len) 0 0 := by
  refine Law.of_walk (plainFor_of_name (by decide +kernel)) (by decide +kernel) (by decide +kernel) (by decide) (fun _ _ h => by rw [h.1]; rfl) (fun _ U U' hal hh h => ⟨h.1, h.2.1.mv hal hh, h.2.2.1.mv hal hh, h.2.2.2⟩) (fun r U U' V V' h1 hal h2 h => ⟨h.1, h.2.elim fun B' q => ⟨B', q.1.mv h1 h2, q.2⟩⟩) ?_
  intro p e s m args below meth c s₁ X0 hexec hbytes hml hret hlk hnm hown hh0 W hP
  obtain ⟨rfl, hA, hB, hne, l1, l2, hp⟩ := hP
  have c1 : Steps p.tables e below (s₁.setTop (entryFrame m #[.ref b, .int (Int32.ofNat o), .ref d, .int (Int32.ofNat q), .int (Int32.ofNat len)] 7)) (s₁.setTop (mkF m 0 #[.val (.ref b), .val (.int (Int32.ofNat o)), .val (.ref d), .val (.int (Int32.ofNat q)), .val (.int (Int32.ofNat len)), .unset, .unset] [])) := entry rfl
  have hA0 := hA.1.mv X0.warmed.alike hh0
  have hB0 := hB.mv X0.warmed.alike hh0
  have a31 := hA.1.2.2.2
  have c2 : Steps p.tables e below (s₁.setTop (entryFrame m #[.ref b, .int (Int32.ofNat o), .ref d, .int (Int32.ofNat q), .int (Int32.ofNat len)] 7)) (s₁.setTop (mkF m 3 #[.val (.ref b), .val (.int (Int32.ofNat o)), .val (.ref d), .val (.int (Int32.ofNat q)), .val (.int (Int32.ofNat len)), .val (.int 0), .unset] [])) := c1.trans (by
    refine iconstV X0.here hexec rfl 0 (hb hbytes d0) (by decide) ?_
    refine XS.istore X0.here hexec rfl (hb hbytes d1) rfl rfl ?_
    exact Steps.refl _)
  have loop : ∀ (r i : Nat), i + r = len → ∀ (z : Slot), (z = .unset ∨ ∃ w, z = .val w ∧ w.category = 1) → ∀ (Tl : State) (Bk : Cell), Stand p l e { frames := 0, locals := 0, cells := 0, slots := 0 } s m #[.ref b, .int (Int32.ofNat o), .ref d, .int (Int32.ofNat q), .int (Int32.ofNat len)] below meth c Tl ([] ++ copyLocs d q i) 0 0 → Put d Bk s₁ Tl → Laid B Bk q (q + i) (fun j => Value.int (lo8 (cv A (o + (j - q))))) →
      Steps p.tables e below (s₁.setTop (entryFrame m #[.ref b, .int (Int32.ofNat o), .ref d, .int (Int32.ofNat q), .int (Int32.ofNat len)] 7)) (Tl.setTop (mkF m 3 #[.val (.ref b), .val (.int (Int32.ofNat (o + i))), .val (.ref d), .val (.int (Int32.ofNat (q + i))), .val (.int (Int32.ofNat len)), .val (.int (Int32.ofNat i)), z] [])) → ∃ (T' : State) (B' : Cell) (z' : Slot), Stand p l e { frames := 0, locals := 0, cells := 0, slots := 0 } s m #[.ref b, .int (Int32.ofNat o), .ref d, .int (Int32.ofNat q), .int (Int32.ofNat len)] below meth c T' ([] ++ copyLocs d q len) 0 0 ∧ Put d B' s₁ T' ∧ Laid B B' q (q + len) (fun j => Value.int (lo8 (cv A (o + (j - q))))) ∧
      Steps p.tables e below (s₁.setTop (entryFrame m #[.ref b, .int (Int32.ofNat o), .ref d, .int (Int32.ofNat q), .int (Int32.ofNat len)] 7)) (T'.setTop (mkF m 3 #[.val (.ref b), .val (.int (Int32.ofNat (o + len))), .val (.ref d), .val (.int (Int32.ofNat (q + len))), .val (.int (Int32.ofNat len)), .val (.int (Int32.ofNat len)), z'] [])) := by
    intro r
    induction r with
    | zero =>
      intro i hi z hz Tl Bk Xl pl fl cl
      have hil : i = len := by omega
      rw [hil] at Xl fl cl
      exact ⟨Tl, Bk, z, Xl, pl, fl, cl⟩
    | succ r ih =>
      intro i hi z hz Tl Bk Xl pl fl cl
      have all := X0.warmed.alike.symm.trans Xl.warmed.alike
      have hAl := hA0.keep all (pl.other hne hA0.1)
      have hBk := hB0.like all pl.1 fl.1 fl.2.1 fl.2.2.1
      have hlt : q + i < Bk.slots.size := by rw [fl.2.2.1]; omega
      have c3 : Steps p.tables e below (s₁.setTop (entryFrame m #[.ref b, .int (Int32.ofNat o), .ref d, .int (Int32.ofNat q), .int (Int32.ofNat len)] 7)) (Tl.setTop (mkF m 12 #[.val (.ref b), .val (.int (Int32.ofNat (o + i))), .val (.ref d), .val (.int (Int32.ofNat (q + i))), .val (.int (Int32.ofNat len)), .val (.int (Int32.ofNat i)), z] [.int (Int32.ofNat (o + i)), .ref b])) := cl.trans (by
        refine XS.iload Xl.here hexec rfl (hb hbytes d3) rfl ?_
        refine XS.iload Xl.here hexec rfl (hb hbytes d5) rfl ?_
        refine XS.icmpNo Xl.here hexec rfl (hb hbytes d7) rfl (ii_ge_f (lt32 (by omega) (by omega))) ?_
        refine XS.aloadN Xl.here hexec rfl (hb hbytes d10) rfl rfl ?_
        refine XS.iloadN Xl.here hexec rfl (hb hbytes d11) rfl ?_
        exact Steps.refl _)
      have c4 : Steps p.tables e below (s₁.setTop (entryFrame m #[.ref b, .int (Int32.ofNat o), .ref d, .int (Int32.ofNat q), .int (Int32.ofNat len)] 7)) (Tl.setTop (mkF m 13 #[.val (.ref b), .val (.int (Int32.ofNat (o + i))), .val (.ref d), .val (.int (Int32.ofNat (q + i))), .val (.int (Int32.ofNat len)), .val (.int (Int32.ofNat i)), z] [.int (cv A (o + i))])) := c3.trans (by
        refine Xl.aget hexec hAl rfl (hA.get (i := o + i) (by omega)) rfl rfl (hb hbytes d12) ?_
        exact Steps.refl _)
      have c5 : Steps p.tables e below (s₁.setTop (entryFrame m #[.ref b, .int (Int32.ofNat o), .ref d, .int (Int32.ofNat q), .int (Int32.ofNat len)] 7)) (Tl.setTop (mkF m 15 #[.val (.ref b), .val (.int (Int32.ofNat (o + i))), .val (.ref d), .val (.int (Int32.ofNat (q + i))), .val (.int (Int32.ofNat len)), .val (.int (Int32.ofNat i)), .val (.int (cv A (o + i)))] [])) := c4.trans (by
        refine XS.istoreS Xl.here hexec rfl (hb hbytes d13) rfl rfl hz ?_
        exact Steps.refl _)
      have c6 : Steps p.tables e below (s₁.setTop (entryFrame m #[.ref b, .int (Int32.ofNat o), .ref d, .int (Int32.ofNat q), .int (Int32.ofNat len)] 7)) (Tl.setTop (mkF m 31 #[.val (.ref b), .val (.int (Int32.ofNat (o + i))), .val (.ref d), .val (.int (Int32.ofNat (q + i))), .val (.int (Int32.ofNat len)), .val (.int (Int32.ofNat i)), .val (.int (cv A (o + i)))] [.int (lo8 (cv A (o + i))), .int (Int32.ofNat (q + i)), .ref d])) := c5.trans (by
        refine XS.iload Xl.here hexec rfl (hb hbytes d15) rfl ?_
        refine sipushV Xl.here hexec rfl 255 (hb hbytes d17) (by decide) ?_
        refine XS.icmpYes Xl.here hexec rfl (pc0 := 20) rfl (hb hbytes d20) rfl (ii_le_t (hp i (by omega))) (by decide) rfl ?_
        refine XS.aloadN Xl.here hexec rfl (hb hbytes d26) rfl rfl ?_
        refine XS.iloadN Xl.here hexec rfl (hb hbytes d27) rfl ?_
        refine XS.iload Xl.here hexec rfl (hb hbytes d28) rfl ?_
        refine i2b Xl.here hexec rfl (hb hbytes d30) rfl ?_
        exact Steps.refl _)
      obtain ⟨T7, X7, p7, st7⟩ := Xl.aput hexec hBk rfl hlt rfl (fits_lo8 (cv A (o + i))) (g := (mkF m 31 #[.val (.ref b), .val (.int (Int32.ofNat (o + i))), .val (.ref d), .val (.int (Int32.ofNat (q + i))), .val (.int (Int32.ofNat len)), .val (.int (Int32.ofNat i)), .val (.int (cv A (o + i)))] [.int (lo8 (cv A (o + i))), .int (Int32.ofNat (q + i)), .ref d])) rfl (rest := []) rfl (hb hbytes d31)
      have c8 : Steps p.tables e below (s₁.setTop (entryFrame m #[.ref b, .int (Int32.ofNat o), .ref d, .int (Int32.ofNat q), .int (Int32.ofNat len)] 7)) (T7.setTop (mkF m 32 #[.val (.ref b), .val (.int (Int32.ofNat (o + i))), .val (.ref d), .val (.int (Int32.ofNat (q + i))), .val (.int (Int32.ofNat len)), .val (.int (Int32.ofNat i)), .val (.int (cv A (o + i)))] [])) := c6.trans (st7 _ (Steps.refl _))
      have c9 : Steps p.tables e below (s₁.setTop (entryFrame m #[.ref b, .int (Int32.ofNat o), .ref d, .int (Int32.ofNat q), .int (Int32.ofNat len)] 7)) (T7.setTop (mkF m 3 #[.val (.ref b), .val (.int (Int32.ofNat (o + i) + 1)), .val (.ref d), .val (.int (Int32.ofNat (q + i) + 1)), .val (.int (Int32.ofNat len)), .val (.int (Int32.ofNat i + 1)), .val (.int (cv A (o + i)))] [])) := c8.trans (by
        refine iincV X7.here hexec rfl 1 (hb hbytes d32) (by decide) rfl rfl ?_
        refine iincV X7.here hexec rfl 1 (hb hbytes d35) (by decide) rfl rfl ?_
        refine iincV X7.here hexec rfl 1 (hb hbytes d38) (by decide) rfl rfl ?_
        refine XS.goto X7.here hexec rfl (pc0 := 41) rfl (hb hbytes d41) (by decide) rfl ?_
        exact Steps.refl _)
      have c10 : Steps p.tables e below (s₁.setTop (entryFrame m #[.ref b, .int (Int32.ofNat o), .ref d, .int (Int32.ofNat q), .int (Int32.ofNat len)] 7)) (T7.setTop (mkF m 3 #[.val (.ref b), .val (.int (Int32.ofNat (o + (i + 1)))), .val (.ref d), .val (.int (Int32.ofNat (q + (i + 1)))), .val (.int (Int32.ofNat len)), .val (.int (Int32.ofNat (i + 1))), .val (.int (cv A (o + i)))] [])) := by
        have := c9
        rw [succ32, succ32, succ32] at this
        exact this
      exact ih (i + 1) (by omega) _ (Or.inr ⟨_, rfl, rfl⟩) T7 _ (by rw [copyLocs_step, ← List.append_assoc]; exact X7) (pl.trans p7) (fl.step (by omega) hlt (by simp)) c10
  obtain ⟨T9, B9, z9, X9, p9, f9, g9⟩ := loop len 0 (by omega) .unset (Or.inl rfl) s₁ B (by simpa [copyLocs] using X0) ⟨hB0.1, fun _ _ => rfl, rfl⟩ (Laid.zero _ _ _) c2
  have c11 : Steps p.tables e below (s₁.setTop (entryFrame m #[.ref b, .int (Int32.ofNat o), .ref d, .int (Int32.ofNat q), .int (Int32.ofNat len)] 7)) (T9.setTop (mkF m 46 #[.val (.ref b), .val (.int (Int32.ofNat (o + len))), .val (.ref d), .val (.int (Int32.ofNat (q + len))), .val (.int (Int32.ofNat len)), .val (.int (Int32.ofNat len)), z9] [.int (Int32.ofNat len)])) := g9.trans (by
    refine XS.iload X9.here hexec rfl (hb hbytes d3) rfl ?_
    refine XS.iload X9.here hexec rfl (hb hbytes d5) rfl ?_
    refine XS.icmpYes X9.here hexec rfl (pc0 := 7) rfl (hb hbytes d7) rfl (ii_ge_t (nlt32 (by omega) (Nat.le_refl _))) (by decide) rfl ?_
    refine XS.iload X9.here hexec rfl (hb hbytes d44) rfl ?_
    exact Steps.refl _)
  exact ⟨T9, some (.int (Int32.ofNat len)), _, _, _, X9, by simp, rfl, rfl, (fun h => by cases h), ⟨rfl, B9, p9.from hh0, f9⟩, fun fs hl => c11.trans (X9.ireturnOut hexec hret rfl (Or.inl rfl) (hb hbytes d46) hl)⟩
end Cmp5
namespace Cmp3
def yN : MethodName := ⟨"java/lang/StringUTF16", "compress", "([CII)[B"⟩
abbrev yB : ByteArray := jdk_52_method_16_code
theorem d0 : decode yB 0 = .ok (.iload_n 2, 1) := by decide +kernel
theorem d1 : decode yB 1 = .ok (.newarray .byte, 2) := by decide +kernel
theorem d3 : decode yB 3 = .ok (.astore_n 3, 1) := by decide +kernel
theorem d4 : decode yB 4 = .ok (.aload_n 0, 1) := by decide +kernel
theorem d5 : decode yB 5 = .ok (.iload_n 1, 1) := by decide +kernel
theorem d6 : decode yB 6 = .ok (.aload_n 3, 1) := by decide +kernel
theorem d7 : decode yB 7 = .ok (.iconst 0, 1) := by decide +kernel
theorem d8 : decode yB 8 = .ok (.iload_n 2, 1) := by decide +kernel
theorem d9 : decode yB 9 = .ok (.invokestatic 115, 3) := by decide +kernel
theorem d12 : decode yB 12 = .ok (.istore 4, 2) := by decide +kernel
theorem d14 : decode yB 14 = .ok (.iload 4, 2) := by decide +kernel
theorem d16 : decode yB 16 = .ok (.iload_n 2, 1) := by decide +kernel
theorem d17 : decode yB 17 = .ok (.if_icmp (.eq) 40, 3) := by decide +kernel
theorem d57 : decode yB 57 = .ok (.aload_n 3, 1) := by decide +kernel
theorem d58 : decode yB 58 = .ok (.areturn, 1) := by decide +kernel
def site : List Cond := [.arrayClass .byte, Cmp5.tab] ++ staticW U16 115 Cmp5.yN
def tab : Cond := tabOf yN yB 6 (some (.array .byte)) site
def P (b : Addr) (A : Cell) (o len : Nat) (args : Array Value) (s : State) : Prop := args = #[.ref b, .int (Int32.ofNat o), .int (Int32.ofNat len)] ∧ Ch b A s ∧ o + len ≤ A.slots.size ∧ len ≤ 536870912 ∧ ∀ i, i < len → ¬ 255 < cv A (o + i)
def E (b : Addr) (A : Cell) (o len : Nat) (r : Option Value) (s u : State) : Prop := NewArr .byte "[B" len (fun j => .int (lo8 (cv A (o + j)))) r s u ∧ u.heap.size = s.heap.size + 1
/-- no char of the range above 255: a new byte[] of their low bytes -/
theorem law (l : Launch) (b : Addr) (A : Cell) (o len : Nat) : Law l yN 3 3 1 18 yB 6 (some (.array .byte)) site (P b A o len) (E b A o len) [] 1 len := by
  refine Law.of_walk (plainFor_of_name (by decide +kernel)) (by decide +kernel) (by decide +kernel) (by decide) (fun _ _ h => by rw [h.1]; rfl) (fun _ U U' hal hh h => ⟨h.1, h.2.1.mv hal hh, h.2.2⟩) (fun r U U' V V' h1 hal h2 h => ⟨NewArr.mv r U U' V V' h1 hal h2 h.1, by rw [h1, h2]; exact h.2⟩) ?_
  intro p e s m args below meth c s₁ X0 hexec hbytes hml hret hlk hnm hown hh0 W hP
  obtain ⟨rfl, hA, l1, l2, hp⟩ := hP
  have a31 := hA.1.2.2.2
  have c1 : Steps p.tables e below (s₁.setTop (entryFrame m #[.ref b, .int (Int32.ofNat o), .int (Int32.ofNat len)] 6)) (s₁.setTop (mkF m 0 #[.val (.ref b), .val (.int (Int32.ofNat o)), .val (.int (Int32.ofNat len)), .unset, .unset, .unset] [])) := entry rfl
  have c2 : Steps p.tables e below (s₁.setTop (entryFrame m #[.ref b, .int (Int32.ofNat o), .int (Int32.ofNat len)] 6)) (s₁.setTop (mkF m 1 #[.val (.ref b), .val (.int (Int32.ofNat o)), .val (.int (Int32.ofNat len)), .unset, .unset, .unset] [.int (Int32.ofNat len)])) := c1.trans (by
    refine XS.iloadN X0.here hexec rfl (hb hbytes d0) rfl ?_
    exact Steps.refl _)
  obtain ⟨T3, B3, X3, ba3, bs3, bv3, bh3, bf3, st3⟩ := X0.anew hexec (atype := .byte) (wk W (.arrayClass .byte)) rfl (by show len * 1 ≤ _; omega) (by omega) (g := (mkF m 1 #[.val (.ref b), .val (.int (Int32.ofNat o)), .val (.int (Int32.ofNat len)), .unset, .unset, .unset] [.int (Int32.ofNat len)])) rfl (hb hbytes d1) (rest := []) rfl (Nat.le_refl _) (by show 0 + len ≤ len; omega)
  rw [hh0] at ba3 st3
  have kp3 : XT.Kept s T3 := (XT.Kept.of_eq hh0).push bh3
  have hA3 := hA.keep X3.warmed.alike (kp3 _ _ hA.1.1)
  have hne : b ≠ s.heap.size := hA.1.ne
  have c4 : Steps p.tables e below (s₁.setTop (entryFrame m #[.ref b, .int (Int32.ofNat o), .int (Int32.ofNat len)] 6)) (T3.setTop (mkF m 3 #[.val (.ref b), .val (.int (Int32.ofNat o)), .val (.int (Int32.ofNat len)), .unset, .unset, .unset] [.ref s.heap.size])) := c2.trans (st3 _ (Steps.refl _))
  have c5 : Steps p.tables e below (s₁.setTop (entryFrame m #[.ref b, .int (Int32.ofNat o), .int (Int32.ofNat len)] 6)) (T3.setTop (mkF m 9 #[.val (.ref b), .val (.int (Int32.ofNat o)), .val (.int (Int32.ofNat len)), .val (.ref s.heap.size), .unset, .unset] [.int (Int32.ofNat len), .int 0, .ref s.heap.size, .int (Int32.ofNat o), .ref b])) := c4.trans (by
    refine XS.astoreN X3.here hexec rfl (hb hbytes d3) rfl rfl rfl ?_
    refine XS.aloadN X3.here hexec rfl (hb hbytes d4) rfl rfl ?_
    refine XS.iloadN X3.here hexec rfl (hb hbytes d5) rfl ?_
    refine XS.aloadN X3.here hexec rfl (hb hbytes d6) rfl rfl ?_
    refine iconstV X3.here hexec rfl 0 (hb hbytes d7) (by decide) ?_
    refine XS.iloadN X3.here hexec rfl (hb hbytes d8) rfl ?_
    exact Steps.refl _)
  obtain ⟨v6, T6, X6, E6, g6⟩ := X3.callS hexec (Cmp5.law l b A s.heap.size B3 o 0 len) hown (wks W (staticW U16 115 Cmp5.yN)) (wk W Cmp5.tab) (W := 0) (Nat.le_of_ble_eq_true rfl) (Nat.le_of_ble_eq_true rfl) (Nat.le_refl _) (by show 0 + len + 0 ≤ len; omega) (g := (mkF m 9 #[.val (.ref b), .val (.int (Int32.ofNat o)), .val (.int (Int32.ofNat len)), .val (.ref s.heap.size), .unset, .unset] [.int (Int32.ofNat len), .int (Int32.ofNat 0), .ref s.heap.size, .int (Int32.ofNat o), .ref b])) rfl (by rw [hml]; rfl) c5 (argsL := [.ref b, .int (Int32.ofNat o), .ref s.heap.size, .int (Int32.ofNat 0), .int (Int32.ofNat len)]) (rest := []) rfl rfl (by show 2 * 0 + 0 ≤ _; decide) (hb hbytes d9) (⟨rfl, hA3, ba3, hne, l1, by rw [bs3]; simp, hp⟩)
  obtain ⟨rfl, B6, p6, f6⟩ := E6
  have c7 : Steps p.tables e below (s₁.setTop (entryFrame m #[.ref b, .int (Int32.ofNat o), .int (Int32.ofNat len)] 6)) (T6.setTop (mkF m 12 #[.val (.ref b), .val (.int (Int32.ofNat o)), .val (.int (Int32.ofNat len)), .val (.ref s.heap.size), .unset, .unset] [.int (Int32.ofNat len)])) := g6
  have c8 : Steps p.tables e below (s₁.setTop (entryFrame m #[.ref b, .int (Int32.ofNat o), .int (Int32.ofNat len)] 6)) (T6.setTop (mkF m 58 #[.val (.ref b), .val (.int (Int32.ofNat o)), .val (.int (Int32.ofNat len)), .val (.ref s.heap.size), .val (.int (Int32.ofNat len)), .unset] [.ref s.heap.size])) := c7.trans (by
    refine XS.istore X6.here hexec rfl (hb hbytes d12) rfl rfl ?_
    refine XS.iload X6.here hexec rfl (hb hbytes d14) rfl ?_
    refine XS.iloadN X6.here hexec rfl (hb hbytes d16) rfl ?_
    refine XS.icmpYes X6.here hexec rfl (pc0 := 17) rfl (hb hbytes d17) rfl (ii_eq_t rfl) (by decide) rfl ?_
    refine XS.aloadN X6.here hexec rfl (hb hbytes d57) rfl rfl ?_
    exact Steps.refl _)
  have X8 := X6.wide (L' := []) (cells' := 1) (slots' := len) (fun x hx hlt => by
    simp only [List.nil_append, copyLocs, List.mem_map, List.mem_range] at hx
    obtain ⟨i, -, rfl⟩ := hx
    exact absurd hlt (Nat.lt_irrefl _)) (Nat.le_refl _) (by omega)
  exact ⟨T6, some (.ref s.heap.size), _, _, _, X8, rfl, rfl, rfl, (fun h => by cases h), ⟨⟨rfl, B6, ba3.like (X3.warmed.alike.symm.trans X6.warmed.alike) p6.1 f6.1 f6.2.1 f6.2.2.1, f6.2.1.trans bv3, by rw [X6.warmed.alike.findClass, f6.1]; exact bf3, by rw [f6.2.2.1, bs3]; simp, fun j hj => by rw [f6.2.2.2 j, if_pos (by omega)]; rfl, kp3.put p6 (Nat.le_refl _)⟩, by rw [p6.2.2, bh3, hh0]; simp⟩, fun fs hl => c8.trans (X8.areturnOut hexec rfl hret rfl (hb hbytes d58) hl)⟩
end Cmp3
namespace CodL
def yN : MethodName := ⟨"java/lang/StringUTF16", "coderFromArrayLen", "([BI)B"⟩
abbrev yB : ByteArray := jdk_52_method_15_code
theorem d0 : decode yB 0 = .ok (.iload_n 1, 1) := by decide +kernel
theorem d1 : decode yB 1 = .ok (.aload_n 0, 1) := by decide +kernel
theorem d2 : decode yB 2 = .ok (.arraylength, 1) := by decide +kernel
theorem d3 : decode yB 3 = .ok (.isub, 1) := by decide +kernel
theorem d4 : decode yB 4 = .ok (.bipush 31, 2) := by decide +kernel
theorem d6 : decode yB 6 = .ok (.iushr, 1) := by decide +kernel
theorem d7 : decode yB 7 = .ok (.i2b, 1) := by decide +kernel
theorem d8 : decode yB 8 = .ok (.ireturn, 1) := by decide +kernel
def site : List Cond := []
def tab : Cond := tabOf yN yB 2 (some .byte) site
def P (d : Addr) (B : Cell) (args : Array Value) (s : State) : Prop := args = #[.ref d, .int (Int32.ofNat B.slots.size)] ∧ Arr .byte d B s
def E (r : Option Value) (s u : State) : Prop := XT.PureE (some (.int 0)) r s u
/-- an array as long as the number of chars: LATIN1 -/
theorem law (l : Launch) (d : Addr) (B : Cell) : Law l yN 2 2 0 0 yB 2 (some .byte) site (P d B) E [] 0 0 := by
  refine Law.of_walk (plainFor_of_name (by decide +kernel)) (by decide +kernel) (by decide +kernel) (by decide) (fun _ _ h => by rw [h.1]; rfl) (fun _ U U' hal hh h => ⟨h.1, h.2.mv hal hh⟩) (fun r U U' V V' h1 hal h2 h => XT.PureE.mv r U U' V V' h1 hal h2 h) ?_
  intro p e s m args below meth c s₁ X0 hexec hbytes hml hret hlk hnm hown hh0 W hP
  obtain ⟨rfl, hB⟩ := hP
  have hB0 := hB.mv X0.warmed.alike hh0
  have c1 : Steps p.tables e below (s₁.setTop (entryFrame m #[.ref d, .int (Int32.ofNat B.slots.size)] 2)) (s₁.setTop (mkF m 0 #[.val (.ref d), .val (.int (Int32.ofNat B.slots.size))] [])) := entry rfl
  have c2 : Steps p.tables e below (s₁.setTop (entryFrame m #[.ref d, .int (Int32.ofNat B.slots.size)] 2)) (s₁.setTop (mkF m 2 #[.val (.ref d), .val (.int (Int32.ofNat B.slots.size))] [.ref d, .int (Int32.ofNat B.slots.size)])) := c1.trans (by
    refine XS.iloadN X0.here hexec rfl (hb hbytes d0) rfl ?_
    refine XS.aloadN X0.here hexec rfl (hb hbytes d1) rfl rfl ?_
    exact Steps.refl _)
  have c3 : Steps p.tables e below (s₁.setTop (entryFrame m #[.ref d, .int (Int32.ofNat B.slots.size)] 2)) (s₁.setTop (mkF m 8 #[.val (.ref d), .val (.int (Int32.ofNat B.slots.size))] [.int (lo8 (ushr (Int32.ofNat B.slots.size - Int32.ofNat B.slots.size) 31))])) := c2.trans (by
    refine X0.alen hexec hB0 rfl rfl (hb hbytes d2) ?_
    refine XS.isub X0.here hexec rfl (hb hbytes d3) rfl ?_
    refine bipushV X0.here hexec rfl 31 (hb hbytes d4) (by decide) ?_
    refine iushr X0.here hexec rfl (hb hbytes d6) rfl ?_
    refine i2b X0.here hexec rfl (hb hbytes d7) rfl ?_
    exact Steps.refl _)
  have e0 : lo8 (ushr (Int32.ofNat B.slots.size - Int32.ofNat B.slots.size) 31) = 0 := by rw [Int32.sub_self]; decide
  rw [e0] at c3
  exact ⟨s₁, some (.int 0), _, _, _, X0, rfl, rfl, rfl, (fun h => by cases h), ⟨rfl, hh0⟩, fun fs hl => c3.trans (X0.ireturnOut hexec hret rfl (Or.inr (Or.inr (Or.inl rfl))) (hb hbytes d8) hl)⟩
end CodL
/-- the String at a is Latin-1 over a new byte[] (the heap's one new cell): the low bytes of the len chars of A from o on; every cell but a is kept -/
def Got (a : Addr) (D : Cell) (fV fC : Field) (A : Cell) (o len : Nat) (r : Option Value) (s u : State) : Prop := r = none ∧ ∃ D' V : Cell, Blank "java/lang/String" a D' u ∧ Same D D' [fV.slot, fC.slot] ∧ D'.slots[fV.slot]? = some (.ref s.heap.size) ∧ D'.slots[fC.slot]? = some (.int 0) ∧ Arr .byte s.heap.size V u ∧ V.vm = .none ∧ u.vm.findClass "[B" = some V.cls ∧ V.slots.size = len ∧ (∀ j, j < len → V.slots[j]? = some (.int (lo8 (cv A (o + j))))) ∧ (∀ (y : Addr) (c : Cell), y ≠ a → s.heap[y]? = some c → u.heap[y]? = some c) ∧ u.heap.size = s.heap.size + 1
theorem Got.mv {a : Addr} {D A : Cell} {fV fC : Field} {o len : Nat} : ∀ r (U U' V V' : State), U'.heap = U.heap → V.vm.Alike V'.vm → V'.heap = V.heap → Got a D fV fC A o len r U V → Got a D fV fC A o len r U' V' :=
  fun r U U' V V' h1 hal h2 ⟨e0, D', X, a1, a2, a3, a4, a5, a6, a7, a8, a9, a10, a11⟩ => ⟨e0, D', X, a1.mv hal h2, a2, by rw [h1]; exact a3, a4, by rw [h1]; exact a5.mv hal h2, a6, by rw [hal.findClass]; exact a7, a8, a9, by rw [h1, h2]; exact a10, by rw [h1, h2]; exact a11⟩
namespace New4
def yN : MethodName := ⟨"java/lang/String", "<init>", "([CIILjava/lang/Void;)V"⟩
abbrev yB : ByteArray := jdk_42_method_149_code
theorem d0 : decode yB 0 = .ok (.aload_n 0, 1) := by decide +kernel
theorem d1 : decode yB 1 = .ok (.invokespecial 1, 3) := by decide +kernel
theorem d4 : decode yB 4 = .ok (.iload_n 3, 1) := by decide +kernel
theorem d5 : decode yB 5 = .ok (.ifCond (.ne) 22, 3) := by decide +kernel
theorem d27 : decode yB 27 = .ok (.getstatic 38, 3) := by decide +kernel
theorem d30 : decode yB 30 = .ok (.ifCond (.eq) 28, 3) := by decide +kernel
theorem d33 : decode yB 33 = .ok (.aload_n 1, 1) := by decide +kernel
theorem d34 : decode yB 34 = .ok (.iload_n 2, 1) := by decide +kernel
theorem d35 : decode yB 35 = .ok (.iload_n 3, 1) := by decide +kernel
theorem d36 : decode yB 36 = .ok (.invokestatic 177, 3) := by decide +kernel
theorem d39 : decode yB 39 = .ok (.astore 5, 2) := by decide +kernel
theorem d41 : decode yB 41 = .ok (.aload_n 0, 1) := by decide +kernel
theorem d42 : decode yB 42 = .ok (.aload 5, 2) := by decide +kernel
theorem d44 : decode yB 44 = .ok (.iload_n 3, 1) := by decide +kernel
theorem d45 : decode yB 45 = .ok (.invokestatic 47, 3) := by decide +kernel
theorem d48 : decode yB 48 = .ok (.putfield 15, 3) := by decide +kernel
theorem d51 : decode yB 51 = .ok (.aload_n 0, 1) := by decide +kernel
theorem d52 : decode yB 52 = .ok (.aload 5, 2) := by decide +kernel
theorem d54 : decode yB 54 = .ok (.putfield 9, 3) := by decide +kernel
theorem d57 : decode yB 57 = .ok (.return_, 1) := by decide +kernel
def site : List Cond := [.fieldLink "java/lang/String" 38 "java/lang/String" "COMPACT_STRINGS" "Z", Cmp3.tab, CodL.tab, .laysFinal "java/lang/String" "java/lang/String" "value" "[B", .fieldLink "java/lang/String" 9 "java/lang/String" "value" "[B", .laysFinal "java/lang/String" "java/lang/String" "coder" "B", .fieldLink "java/lang/String" 15 "java/lang/String" "coder" "B"] ++ objW "java/lang/String" 1 ++ staticW "java/lang/String" 177 Cmp3.yN ++ staticW "java/lang/String" 47 CodL.yN
def tab : Cond := tabOf yN yB 6 none site
def P (a : Addr) (D : Cell) (fV fC : Field) (b : Addr) (A : Cell) (z : Int32) (o len : Nat) (args : Array Value) (s : State) : Prop := args = #[.ref a, .ref b, .int (Int32.ofNat o), .int (Int32.ofNat len), .null] ∧ Blank "java/lang/String" a D s ∧ Found "java/lang/String" "value" "[B" fV s ∧ Found "java/lang/String" "coder" "B" fC s ∧ Ch b A s ∧ StaticIs s "java/lang/String" "COMPACT_STRINGS" "Z" (.int z) ∧ ¬ z = 0 ∧ 0 < len ∧ o + len ≤ A.slots.size ∧ len ≤ 536870912 ∧ ∀ i, i < len → ¬ 255 < cv A (o + i)
def E (a : Addr) (D : Cell) (fV fC : Field) (A : Cell) (o len : Nat) (r : Option Value) (s u : State) : Prop := Got a D fV fC A o len r s u
/-- len > 0, no char of the range above 255: a Latin-1 String of their low bytes -/
theorem law (l : Launch) (a : Addr) (D : Cell) (fV fC : Field) (b : Addr) (A : Cell) (z : Int32) (o len : Nat) : Law l yN 5 4 2 35 yB 6 none site (P a D fV fC b A z o len) (E a D fV fC A o len) [⟨a, fC.slot⟩, ⟨a, fV.slot⟩] 1 len := by
  refine Law.of_walk (plainFor_of_name (by decide +kernel)) (by decide +kernel) (by decide +kernel) (by decide) (fun _ _ h => by rw [h.1]; rfl) (fun _ U U' hal hh h => ⟨h.1, h.2.1.mv hal hh, h.2.2.1.al hal, h.2.2.2.1.al hal, h.2.2.2.2.1.mv hal hh, h.2.2.2.2.2.1.there hal hh, h.2.2.2.2.2.2⟩) (fun r U U' V V' h1 hal h2 h => Got.mv r U U' V V' h1 hal h2 h) ?_
  intro p e s m args below meth c s₁ X0 hexec hbytes hml hret hlk hnm hown hh0 W hP
  obtain ⟨rfl, hB, f1, f2, hA, s1, hz, l0, l1, l2, hp⟩ := hP
  have a31 := hA.1.2.2.2
  have c1 : Steps p.tables e below (s₁.setTop (entryFrame m #[.ref a, .ref b, .int (Int32.ofNat o), .int (Int32.ofNat len), .null] 6)) (s₁.setTop (mkF m 0 #[.val (.ref a), .val (.ref b), .val (.int (Int32.ofNat o)), .val (.int (Int32.ofNat len)), .val .null, .unset] [])) := entry rfl
  have c2 : Steps p.tables e below (s₁.setTop (entryFrame m #[.ref a, .ref b, .int (Int32.ofNat o), .int (Int32.ofNat len), .null] 6)) (s₁.setTop (mkF m 1 #[.val (.ref a), .val (.ref b), .val (.int (Int32.ofNat o)), .val (.int (Int32.ofNat len)), .val .null, .unset] [.ref a])) := c1.trans (by
    refine XS.aloadN X0.here hexec rfl (hb hbytes d0) rfl rfl ?_
    exact Steps.refl _)
  obtain ⟨T3, X3, q3, st3⟩ := X0.oinit hexec hown (wks W (objW "java/lang/String" 1)) (g := (mkF m 1 #[.val (.ref a), .val (.ref b), .val (.int (Int32.ofNat o)), .val (.int (Int32.ofNat len)), .val .null, .unset] [.ref a])) rfl (by rw [hml]; rfl) (rest := []) rfl (hb hbytes d1) (W := 0) (by show 2 * 0 + 0 ≤ _; decide) (Nat.le_of_ble_eq_true rfl) (Nat.le_of_ble_eq_true rfl)
  have hh3 := q3.trans hh0
  have c4 : Steps p.tables e below (s₁.setTop (entryFrame m #[.ref a, .ref b, .int (Int32.ofNat o), .int (Int32.ofNat len), .null] 6)) (T3.setTop (mkF m 27 #[.val (.ref a), .val (.ref b), .val (.int (Int32.ofNat o)), .val (.int (Int32.ofNat len)), .val .null, .unset] [])) := (c2.trans (st3 _ (Steps.refl _))).trans (by
    refine XS.iloadN X3.here hexec rfl (hb hbytes d4) rfl ?_
    refine XS.ifYes X3.here hexec rfl (pc0 := 5) rfl (hb hbytes d5) rfl (i0_ne_t (nz32 (by omega) l0)) (by decide) rfl ?_
    exact Steps.refl _)
  obtain ⟨T5, X5, q5, st5⟩ := X3.sget hexec hown (wk W (.fieldLink "java/lang/String" 38 "java/lang/String" "COMPACT_STRINGS" "Z")) s1 (fun _ _ h => by rw [hh3]; exact h) (g := (mkF m 27 #[.val (.ref a), .val (.ref b), .val (.int (Int32.ofNat o)), .val (.int (Int32.ofNat len)), .val .null, .unset] [])) rfl (hb hbytes d27)
  have hh5 := q5.trans hh3
  have c6 : Steps p.tables e below (s₁.setTop (entryFrame m #[.ref a, .ref b, .int (Int32.ofNat o), .int (Int32.ofNat len), .null] 6)) (T5.setTop (mkF m 30 #[.val (.ref a), .val (.ref b), .val (.int (Int32.ofNat o)), .val (.int (Int32.ofNat len)), .val .null, .unset] [.int z])) := c4.trans (st5 _ (Steps.refl _))
  have c7 : Steps p.tables e below (s₁.setTop (entryFrame m #[.ref a, .ref b, .int (Int32.ofNat o), .int (Int32.ofNat len), .null] 6)) (T5.setTop (mkF m 36 #[.val (.ref a), .val (.ref b), .val (.int (Int32.ofNat o)), .val (.int (Int32.ofNat len)), .val .null, .unset] [.int (Int32.ofNat len), .int (Int32.ofNat o), .ref b])) := c6.trans (by
    refine XS.ifNo X5.here hexec rfl (hb hbytes d30) rfl (i0_eq_f hz) ?_
    refine XS.aloadN X5.here hexec rfl (hb hbytes d33) rfl rfl ?_
    refine XS.iloadN X5.here hexec rfl (hb hbytes d34) rfl ?_
    refine XS.iloadN X5.here hexec rfl (hb hbytes d35) rfl ?_
    exact Steps.refl _)
  obtain ⟨v8, T8, X8, E8, g8⟩ := X5.callS hexec (Cmp3.law l b A o len) hown (wks W (staticW "java/lang/String" 177 Cmp3.yN)) (wk W Cmp3.tab) (W := 0) (Nat.le_of_ble_eq_true rfl) (Nat.le_of_ble_eq_true rfl) (Nat.le_refl _) (by show 0 + len ≤ len; omega) (g := (mkF m 36 #[.val (.ref a), .val (.ref b), .val (.int (Int32.ofNat o)), .val (.int (Int32.ofNat len)), .val .null, .unset] [.int (Int32.ofNat len), .int (Int32.ofNat o), .ref b])) rfl (by rw [hml]; rfl) c7 (argsL := [.ref b, .int (Int32.ofNat o), .int (Int32.ofNat len)]) (rest := []) rfl rfl (by show 2 * 0 + 0 ≤ _; decide) (hb hbytes d36) (⟨rfl, hA.mv X5.warmed.alike hh5, l1, l2, hp⟩)
  obtain ⟨e8, z8⟩ := E8
  obtain ⟨rfl, N, n1, n2, n3, n4, n5, n6⟩ := NewArr.mv _ T5 s _ _ hh5.symm (Vm.Alike.refl _) rfl e8
  rw [hh5] at z8
  have hB1 := hB.keep X8.warmed.alike (n6 _ _ hB.1)
  have hne : s.heap.size ≠ a := (Nat.ne_of_lt (Array.getElem?_eq_some_iff.mp hB.1).1).symm
  have c9 : Steps p.tables e below (s₁.setTop (entryFrame m #[.ref a, .ref b, .int (Int32.ofNat o), .int (Int32.ofNat len), .null] 6)) (T8.setTop (mkF m 39 #[.val (.ref a), .val (.ref b), .val (.int (Int32.ofNat o)), .val (.int (Int32.ofNat len)), .val .null, .unset] [.ref s.heap.size])) := g8
  have c10 : Steps p.tables e below (s₁.setTop (entryFrame m #[.ref a, .ref b, .int (Int32.ofNat o), .int (Int32.ofNat len), .null] 6)) (T8.setTop (mkF m 45 #[.val (.ref a), .val (.ref b), .val (.int (Int32.ofNat o)), .val (.int (Int32.ofNat len)), .val .null, .val (.ref s.heap.size)] [.int (Int32.ofNat N.slots.size), .ref s.heap.size, .ref a])) := by
    have hc : Steps p.tables e below (s₁.setTop (entryFrame m #[.ref a, .ref b, .int (Int32.ofNat o), .int (Int32.ofNat len), .null] 6)) (T8.setTop (mkF m 45 #[.val (.ref a), .val (.ref b), .val (.int (Int32.ofNat o)), .val (.int (Int32.ofNat len)), .val .null, .val (.ref s.heap.size)] [.int (Int32.ofNat len), .ref s.heap.size, .ref a])) := c9.trans (by
      refine XS.astore X8.here hexec rfl (hb hbytes d39) rfl rfl rfl ?_
      refine XS.aloadN X8.here hexec rfl (hb hbytes d41) rfl rfl ?_
      refine XS.aload X8.here hexec rfl (hb hbytes d42) rfl rfl ?_
      refine XS.iloadN X8.here hexec rfl (hb hbytes d44) rfl ?_
      exact Steps.refl _)
    rw [n4]; exact hc
  obtain ⟨v11, T11, X11, E11, g11⟩ := X8.callS hexec (CodL.law l s.heap.size N) hown (wks W (staticW "java/lang/String" 47 CodL.yN)) (wk W CodL.tab) (W := 1) (Nat.le_of_ble_eq_true rfl) (Nat.le_of_ble_eq_true rfl) (Nat.le_refl _) (by show 0 + len + 0 ≤ len; omega) (g := (mkF m 45 #[.val (.ref a), .val (.ref b), .val (.int (Int32.ofNat o)), .val (.int (Int32.ofNat len)), .val .null, .val (.ref s.heap.size)] [.int (Int32.ofNat N.slots.size), .ref s.heap.size, .ref a])) rfl (by rw [hml]; rfl) c10 (argsL := [.ref s.heap.size, .int (Int32.ofNat N.slots.size)]) (rest := [.ref a]) rfl rfl (by show 2 * 0 + (1 + 0) ≤ _; decide) (hb hbytes d45) (⟨rfl, n1⟩)
  obtain ⟨rfl, q11⟩ := E11
  have hB11 := hB1.mv (X8.warmed.alike.symm.trans X11.warmed.alike) q11
  have c12 : Steps p.tables e below (s₁.setTop (entryFrame m #[.ref a, .ref b, .int (Int32.ofNat o), .int (Int32.ofNat len), .null] 6)) (T11.setTop (mkF m 48 #[.val (.ref a), .val (.ref b), .val (.int (Int32.ofNat o)), .val (.int (Int32.ofNat len)), .val .null, .val (.ref s.heap.size)] [.int 0, .ref a])) := g11
  obtain ⟨T13, X13, p13, bl13, sl13, st13⟩ := X11.finit hexec hown (wk W (.fieldLink "java/lang/String" 15 "java/lang/String" "coder" "B")) (Or.inr ⟨_, (wk W (.laysFinal "java/lang/String" "java/lang/String" "coder" "B"))⟩) (Or.inl ⟨rfl, hnm⟩) f2 (Or.inl rfl) hB11 (t := .byte) (by decide +kernel) rfl (g := (mkF m 48 #[.val (.ref a), .val (.ref b), .val (.int (Int32.ofNat o)), .val (.int (Int32.ofNat len)), .val .null, .val (.ref s.heap.size)] [.int 0, .ref a])) rfl (rest := []) rfl (hb hbytes d48)
  have c14 : Steps p.tables e below (s₁.setTop (entryFrame m #[.ref a, .ref b, .int (Int32.ofNat o), .int (Int32.ofNat len), .null] 6)) (T13.setTop (mkF m 54 #[.val (.ref a), .val (.ref b), .val (.int (Int32.ofNat o)), .val (.int (Int32.ofNat len)), .val .null, .val (.ref s.heap.size)] [.ref s.heap.size, .ref a])) := (c12.trans (st13 _ (Steps.refl _))).trans (by
    refine XS.aloadN X13.here hexec rfl (hb hbytes d51) rfl rfl ?_
    refine XS.aload X13.here hexec rfl (hb hbytes d52) rfl rfl ?_
    exact Steps.refl _)
  obtain ⟨T15, X15, p15, bl15, sl15, st15⟩ := X13.finit hexec hown (wk W (.fieldLink "java/lang/String" 9 "java/lang/String" "value" "[B")) (Or.inr ⟨_, (wk W (.laysFinal "java/lang/String" "java/lang/String" "value" "[B"))⟩) (Or.inl ⟨rfl, hnm⟩) f1 (Or.inl rfl) bl13 (t := (.array .byte)) (by decide +kernel) rfl (g := (mkF m 54 #[.val (.ref a), .val (.ref b), .val (.int (Int32.ofNat o)), .val (.int (Int32.ofNat len)), .val .null, .val (.ref s.heap.size)] [.ref s.heap.size, .ref a])) rfl (rest := []) rfl (hb hbytes d54)
  have c16 : Steps p.tables e below (s₁.setTop (entryFrame m #[.ref a, .ref b, .int (Int32.ofNat o), .int (Int32.ofNat len), .null] 6)) (T15.setTop (mkF m 57 #[.val (.ref a), .val (.ref b), .val (.int (Int32.ofNat o)), .val (.int (Int32.ofNat len)), .val .null, .val (.ref s.heap.size)] [])) := c14.trans (st15 _ (Steps.refl _))
  have ap := apart (Or.inr ⟨_, (wk W (.laysFinal "java/lang/String" "java/lang/String" "value" "[B"))⟩) (Or.inr ⟨_, (wk W (.laysFinal "java/lang/String" "java/lang/String" "coder" "B"))⟩) f1 f2 (t₁ := .array .byte) (t₂ := .byte) (by decide +kernel) (by decide +kernel) (by decide)
  have al := X8.warmed.alike.symm.trans X15.warmed.alike
  have n7 : T11.heap[s.heap.size]? = some N := by rw [q11]; exact n1.1
  exact ⟨T15, none, _, _, _, X15, by simp, rfl, by omega, (fun _ => rfl), ⟨rfl, _, N, bl15, ((Same.refl D _).set _ (by simp)).set _ (by simp), sl15, (Cell.slots_setSlot_ne _ ap).trans sl13, n1.keep al (p15.other hne (p13.other hne n7)), n2, by rw [al.findClass]; exact n3, n4, n5, fun y c h1 h2 => p15.other h1 (p13.other h1 (by rw [q11]; exact n6 y c h2)), by rw [p15.2.2, p13.2.2, q11]; exact z8⟩, fun fs hl => c16.trans (X15.returnOut hexec hret (hb hbytes d57) hl)⟩
end New4
namespace New1
def yN : MethodName := ⟨"java/lang/String", "<init>", "([C)V"⟩
abbrev yB : ByteArray := jdk_42_method_3_code
theorem d0 : decode yB 0 = .ok (.aload_n 0, 1) := by decide +kernel
theorem d1 : decode yB 1 = .ok (.aload_n 1, 1) := by decide +kernel
theorem d2 : decode yB 2 = .ok (.iconst 0, 1) := by decide +kernel
theorem d3 : decode yB 3 = .ok (.aload_n 1, 1) := by decide +kernel
theorem d4 : decode yB 4 = .ok (.arraylength, 1) := by decide +kernel
theorem d5 : decode yB 5 = .ok (.aconst_null, 1) := by decide +kernel
theorem d6 : decode yB 6 = .ok (.invokespecial 27, 3) := by decide +kernel
theorem d9 : decode yB 9 = .ok (.return_, 1) := by decide +kernel
def site : List Cond := [New4.tab] ++ initW "java/lang/String" 27 New4.yN
def tab : Cond := tabOf yN yB 2 none site
def P (a : Addr) (D : Cell) (fV fC : Field) (b : Addr) (A : Cell) (z : Int32) (args : Array Value) (s : State) : Prop := args = #[.ref a, .ref b] ∧ Blank "java/lang/String" a D s ∧ Found "java/lang/String" "value" "[B" fV s ∧ Found "java/lang/String" "coder" "B" fC s ∧ Ch b A s ∧ StaticIs s "java/lang/String" "COMPACT_STRINGS" "Z" (.int z) ∧ ¬ z = 0 ∧ 0 < A.slots.size ∧ A.slots.size ≤ 536870912 ∧ ∀ i, i < A.slots.size → ¬ 255 < cv A i
def E (a : Addr) (D : Cell) (fV fC : Field) (A : Cell) (r : Option Value) (s u : State) : Prop := Got a D fV fC A 0 A.slots.size r s u
/-- new String(chars), not empty, no char above 255: a Latin-1 String of their low bytes -/
theorem law (l : Launch) (a : Addr) (D : Cell) (fV fC : Field) (b : Addr) (A : Cell) (z : Int32) : Law l yN 2 1 3 52 yB 2 none site (P a D fV fC b A z) (E a D fV fC A) [⟨a, fC.slot⟩, ⟨a, fV.slot⟩] 1 A.slots.size := by
  refine Law.of_walk (plainFor_of_name (by decide +kernel)) (by decide +kernel) (by decide +kernel) (by decide) (fun _ _ h => by rw [h.1]; rfl) (fun _ U U' hal hh h => ⟨h.1, h.2.1.mv hal hh, h.2.2.1.al hal, h.2.2.2.1.al hal, h.2.2.2.2.1.mv hal hh, h.2.2.2.2.2.1.there hal hh, h.2.2.2.2.2.2⟩) (fun r U U' V V' h1 hal h2 h => Got.mv r U U' V V' h1 hal h2 h) ?_
  intro p e s m args below meth c s₁ X0 hexec hbytes hml hret hlk hnm hown hh0 W hP
  obtain ⟨rfl, hB, f1, f2, hA, s1, hz, l0, l2, hp⟩ := hP
  have c1 : Steps p.tables e below (s₁.setTop (entryFrame m #[.ref a, .ref b] 2)) (s₁.setTop (mkF m 0 #[.val (.ref a), .val (.ref b)] [])) := entry rfl
  have c2 : Steps p.tables e below (s₁.setTop (entryFrame m #[.ref a, .ref b] 2)) (s₁.setTop (mkF m 6 #[.val (.ref a), .val (.ref b)] [.null, .int (Int32.ofNat A.slots.size), .int 0, .ref b, .ref a])) := c1.trans (by
    refine XS.aloadN X0.here hexec rfl (hb hbytes d0) rfl rfl ?_
    refine XS.aloadN X0.here hexec rfl (hb hbytes d1) rfl rfl ?_
    refine iconstV X0.here hexec rfl 0 (hb hbytes d2) (by decide) ?_
    refine XS.aloadN X0.here hexec rfl (hb hbytes d3) rfl rfl ?_
    refine X0.alen hexec (hA.1.mv X0.warmed.alike hh0) rfl rfl (hb hbytes d4) ?_
    refine XS.aconstNull X0.here hexec rfl (hb hbytes d5) ?_
    exact Steps.refl _)
  obtain ⟨v3, T3, X3, E3, g3⟩ := X0.callN hexec (New4.law l a D fV fC b A z 0 A.slots.size) rfl hown (wks W (initW "java/lang/String" 27 New4.yN)) (W New4.tab (by simp only [site, List.mem_cons, List.mem_append, true_or, or_true])) (W := 0) (Nat.le_of_ble_eq_true rfl) (Nat.le_of_ble_eq_true rfl) (Nat.le_refl _) (by show 0 + A.slots.size ≤ A.slots.size; omega) (g := (mkF m 6 #[.val (.ref a), .val (.ref b)] [.null, .int (Int32.ofNat A.slots.size), .int (Int32.ofNat 0), .ref b, .ref a])) rfl (by rw [hml]; rfl) c2 (argsL := [.ref b, .int (Int32.ofNat 0), .int (Int32.ofNat A.slots.size), .null]) (rest := []) rfl rfl (by show 2 * 0 + 0 ≤ _; decide) (hb hbytes d6) (⟨rfl, hB.mv X0.warmed.alike hh0, f1.al X0.warmed.alike, f2.al X0.warmed.alike, hA.mv X0.warmed.alike hh0, s1.there X0.warmed.alike hh0, hz, l0, by omega, l2, fun i hi => by rw [Nat.zero_add]; exact hp i hi⟩)
  have e0 := Got.mv _ s₁ s _ _ hh0.symm (Vm.Alike.refl _) rfl E3
  obtain rfl := e0.1
  have c4 : Steps p.tables e below (s₁.setTop (entryFrame m #[.ref a, .ref b] 2)) (T3.setTop (mkF m 9 #[.val (.ref a), .val (.ref b)] [])) := g3
  exact ⟨T3, none, _, _, _, X3, by simp, rfl, by omega, (fun _ => rfl), e0, fun fs hl => c4.trans (X3.returnOut hexec hret (hb hbytes d9) hl)⟩
theorem pays {l : Launch} {R : Room} {p : Program} {e : Env} {below : List Frame} {s : State} {sargs : Array Value} {len W : Nat} (a : Addr) (D : Cell) (fV fC : Field) (b : Addr) (A : Cell) (z : Int32) (htab : tab.before sargs s = true) (hfr : 4 ≤ R.frames) (hlo : W + 65 ≤ R.locals) :
    Back l R p e below s sargs yN len W (fun A₁ a₁ => A₁.cells + 1 ≤ R.cells ∧ A₁.slots + A.slots.size ≤ R.slots ∧ P a D fV fC b A z a₁ A₁.U) (fun A₁ _ v₁ B₁ => E a D fV fC A v₁ A₁.U B₁.U ∧ B₁.locs = A₁.locs ++ [⟨a, fC.slot⟩, ⟨a, fV.slot⟩] ∧ B₁.cells = A₁.cells + 1 ∧ B₁.slots = A₁.slots + A.slots.size) :=
  (law l a D fV fC b A z).pays htab hfr (by omega)
end New1
/-- the byte, read back as charAt reads it, is the char -/
theorem lo8_mask {x : Int32} (h0 : ¬ x < 0) (h1 : ¬ 255 < x) : lo8 x &&& 255 = x := by
  have t : ∀ k : Fin 256, lo8 (Int32.ofNat k.val) &&& 255 = Int32.ofNat k.val := by decide +kernel
  rw [Int32.lt_iff_toInt_lt] at h0 h1
  have e0 : (0 : Int32).toInt = 0 := rfl
  have e1 : (255 : Int32).toInt = 255 := rfl
  obtain ⟨k, hk⟩ : ∃ k : Nat, x.toInt = k := ⟨x.toInt.toNat, by omega⟩
  have hx : x = Int32.ofNat k := Int32.toInt_inj.mp (by rw [hk, Int32.toInt_ofNat_small (by omega)])
  rw [hx]
  exact t ⟨k, by omega⟩
end StrChars
namespace StrChars.Road
open Jvm Sem ClassFile Op Lib Jvm.Stand Jvm.Free Jvm.Free.XT
open Jvm.Lib.Cold (StaticIs)
abbrev ST : String := "java/lang/String"
/-- every table word that New1's law asks, flat -/
abbrev words : List Jvm.Cond := [.code New1.yN New1.yB 2 none, .initialized ST, .methodLink ST 27 New4.yN, .instanceMethod New4.yN,
  .code New4.yN New4.yB 6 none, .fieldLink ST 38 ST "COMPACT_STRINGS" "Z", .laysFinal ST ST "value" "[B", .fieldLink ST 9 ST "value" "[B", .laysFinal ST ST "coder" "B", .fieldLink ST 15 ST "coder" "B",
  .methodLink ST 1 Lib.objectInit, .instanceMethod Lib.objectInit, .code Lib.objectInit ⟨#[0xb1]⟩ 1 none, .methodLink ST 177 Cmp3.yN, .static Cmp3.yN, .methodLink ST 47 CodL.yN, .static CodL.yN,
  .code Cmp3.yN Cmp3.yB 6 (some (.array .byte)), .initialized U16, .arrayClass .byte, .methodLink U16 115 Cmp5.yN, .static Cmp5.yN, .code Cmp5.yN Cmp5.yB 7 (some .int), .code CodL.yN CodL.yB 2 (some .byte)]
theorem tab_of {a : Array Value} {s : State} (h : ∀ w ∈ words, w.before a s = true) : New1.tab.before a s = true := by
  have h5 : Cmp5.tab.before a s = true := unparts (wk h (.code Cmp5.yN Cmp5.yB 7 (some .int))) (wks h (.initialized Cmp5.yN.cls :: Cmp5.site))
  have hc : CodL.tab.before a s = true := unparts (wk h (.code CodL.yN CodL.yB 2 (some .byte))) (wks h (.initialized CodL.yN.cls :: CodL.site))
  have q5 : ∀ w ∈ Cmp5.tab :: words, w.before a s = true := fun w hw => (List.mem_cons.mp hw).elim (fun e => e ▸ h5) (h w)
  have h3 : Cmp3.tab.before a s = true := unparts (wk q5 (.code Cmp3.yN Cmp3.yB 6 (some (.array .byte)))) (wks q5 (.initialized Cmp3.yN.cls :: Cmp3.site))
  have q3 : ∀ w ∈ Cmp3.tab :: CodL.tab :: words, w.before a s = true := fun w hw => (List.mem_cons.mp hw).elim (fun e => e ▸ h3) fun hw => (List.mem_cons.mp hw).elim (fun e => e ▸ hc) (h w)
  have h4 : New4.tab.before a s = true := unparts (wk q3 (.code New4.yN New4.yB 6 none)) (wks q3 (.initialized New4.yN.cls :: New4.site))
  have q4 : ∀ w ∈ New4.tab :: words, w.before a s = true := fun w hw => (List.mem_cons.mp hw).elim (fun e => e ▸ h4) (h w)
  exact unparts (wk q4 (.code New1.yN New1.yB 2 none)) (wks q4 (.initialized New1.yN.cls :: New1.site))
/-- the words ride from the start Z to the walk's own state -/
theorem moved {Z s : State} {a0 args : Array Value} (hZ : Z.Warmed39 s.vm) (hw : ∀ d ∈ words, d.before a0 Z = true) : ∀ d ∈ words, d.before args s = true := fun d hd => by
  have q := hw d hd
  have t : ∀ d ∈ words, d = .arrayClass .byte ∨ (d.onTables && d.keepsFace) = true := by decide +kernel
  rcases t d hd with rfl | t
  · exact RoadKit.mvA hZ q
  · exact RoadKit.mv hZ q t
/-- WHAT COMES BACK, over the tables of the start Z: h the heap at the call, h' behind it -/
def Q (Z : State) (x : Addr) (A : Cell) (h : Heap) (v : Option Value) (h' : Heap) (L : List Loc) : Prop := v = none ∧ (∀ y ∈ L, y.base = x) ∧ RoadKit.Keep h h' [x] ∧ h'.size = h.size + 1 ∧ RoadKit.Exa Z h' x ST ∧ RoadKit.Fld Z h' x ST "value" "[B" (.ref h.size) ∧ RoadKit.Fld Z h' x ST "coder" "B" (.int 0) ∧
  (∃ V : Cell, RoadKit.Arr Z h' h.size V .byte ∧ V.vm = .none ∧ Z.vm.findClass "[B" = some V.cls ∧ V.slots.size = A.slots.size ∧ ∀ j, j < A.slots.size → V.slots[j]? = some (.int (lo8 (cv A j)))) ∧
  ∀ (O n d : String) (w : Value), RoadKit.Fld Z h x O n d w → RoadKit.slotOf Z O n d ≠ RoadKit.slotOf Z ST "value" "[B" → RoadKit.slotOf Z O n d ≠ RoadKit.slotOf Z ST "coder" "B" → RoadKit.Fld Z h' x O n d w
/-- **new String(chars) AT A CALL, IN THE ROAD'S FORM**: for specialBack behind newO: x the fresh String, b the char[] with the cell A -/
theorem back {p : Program} {l : Launch} {e : Env} {R : Room} {s : State} {args : Array Value} {below : List Frame} {len W : Nat} {Z : State} {a0 : Array Value} {h : Heap} (hZ : Z.Warmed39 s.vm) (hw : ∀ d ∈ words, d.before a0 Z = true) {kI : Nat} (wi : (Jvm.Cond.instantiable ST kI).before a0 Z = true)
    {x b : Addr} {A : Cell} {z : Int32} {v0 c0 : Value} (E : RoadKit.Exa Z h x ST) (V : RoadKit.Fld Z h x ST "value" "[B" v0) (C : RoadKit.Fld Z h x ST "coder" "B" c0) (K : RoadKit.Arr Z h b A .char) (hty : Typed .char A) (S : RoadKit.Sta Z h ST "COMPACT_STRINGS" "Z" (.int z)) (hz : ¬ z = 0)
    (l0 : 0 < A.slots.size) (l2 : A.slots.size ≤ 536870912) (hp : ∀ i, i < A.slots.size → ¬ 255 < cv A i) (hfr : 4 ≤ R.frames) (hlo : W + 65 ≤ R.locals) :
    Back l R p e below s args New1.yN len W (fun P a => a = #[.ref x, .ref b] ∧ P.U.heap = h ∧ P.cells + 1 ≤ R.cells ∧ P.slots + A.slots.size ≤ R.slots)
      (fun P _ v B => ∃ L, Q Z x A h v B.U.heap L ∧ B.locs = P.locs ++ L ∧ B.cells = P.cells + 1 ∧ B.slots = P.slots + A.slots.size) := by
  intro m meth c P g ig mk a X hg hsize hdg hW hn hp'
  obtain ⟨rfl, rfl, r1, r2⟩ := hp'
  have al : Z.vm.Alike P.U.vm := hZ.alike.trans X.warmed.alike
  obtain ⟨D, cfV, kV, iV, fV, hD, gV, stV, knV, obV, asV, slV⟩ := id V
  obtain ⟨D', cfC, kC, iC, fC, hD', gC, stC, -, -, asC, slC⟩ := id C
  cases hD.symm.trans hD'
  obtain ⟨D2, kD, e1, e2, e3, e4, e5⟩ := id E
  cases hD.symm.trans e1
  obtain ⟨c2, k2, i1, i2, i3, -⟩ := Cond.instantiable_spec wi
  cases e2.symm.trans i1
  cases e3.symm.trans i2
  obtain ⟨kU, u1, u2⟩ := al.2.2 _ _ e3
  have hB : Blank ST x D P.U := ⟨hD, ⟨knV, fun q hq => by rw [hq] at obV; cases obV⟩, by rw [al.findClass]; exact e2, kU, u1, by rw [u2]; exact i3, by rw [u2]; exact e5 i3⟩
  have F1 : Found ST "value" "[B" fV P.U := ⟨SBG.found_only al ⟨cfV, kV, iV, gV⟩, stV⟩
  have F2 : Found ST "coder" "B" fC P.U := ⟨SBG.found_only al ⟨cfC, kC, iC, gC⟩, stC⟩
  have hA : Ch b A P.U := ⟨⟨K.1, State.isArrayOf_alike al K.2.1, K.2.2, by omega⟩, hty⟩
  have hS : StaticIs P.U ST "COMPACT_STRINGS" "Z" (.int z) := by
    obtain ⟨cfS, iS, kS, fS, st, cS, t1, t2, t3, t4, t5, t6, t7⟩ := S
    exact StaticIs.there (s := { Z with heap := P.U.heap }) ⟨cfS, iS, kS, fS, st, cS, t1, t2, t3, t4, t5, (fun q => by rw [q] at t6; cases t6), t7⟩ al rfl
  obtain ⟨v, B, X', ⟨⟨hv, E', V', q1, q2, q3, q4, q5, q6, q7, q8, q9, q10, q11⟩, hl, hc, hs⟩, st⟩ := New1.pays x D fV fC b A z (tab_of (moved hZ hw)) hfr hlo m meth c P g ig mk _ X hg hsize hdg hW hn ⟨r1, r2, rfl, hB, F1, F2, hA, hS, hz, l0, l2, hp⟩
  have al' : Z.vm.Alike B.U.vm := hZ.alike.trans X'.warmed.alike
  have hsz : E'.slots.size = D.slots.size := by
    obtain ⟨-, -, -, kB, w1, w2, w3⟩ := q1
    obtain ⟨kB', y1, y2⟩ := al'.2.2 _ _ e3
    rw [q2.2.1] at w1
    cases w1.symm.trans y1
    rw [w3, e5 i3, y2]
  refine ⟨v, B, X', ⟨_, ⟨hv, ?_, ⟨by omega, fun y cy hy hn' => q10 y cy (by simpa using hn') hy, fun y cy hy => ?_⟩, q11, ⟨E', _, q1.1, by rw [q2.2.1]; exact e2, by rw [q2.2.1]; exact e3, by rw [q2.1]; exact obV, fun _ => by rw [hsz]; exact e5 i3⟩,
    ⟨E', cfV, kV, iV, fV, q1.1, gV, stV, by rw [q2.1]; exact knV, by rw [q2.1]; exact obV, by rw [q2.2.1]; exact asV, q3⟩, ⟨E', cfC, kC, iC, fC, q1.1, gC, stC, by rw [q2.1]; exact knV, by rw [q2.1]; exact obV, by rw [q2.2.1]; exact asC, q4⟩,
    ⟨V', ⟨q5.1, State.isArrayOf_alike al'.symm q5.2.1, q5.2.2.1⟩, q6, by rw [← al'.findClass]; exact q7, q8, fun j hj => by have := q9 j hj; rwa [Nat.zero_add] at this⟩, fun O n d w F n1 n2 => ?_⟩, hl, hc, hs⟩, st⟩
  · intro y hy
    simp only [List.mem_cons, List.not_mem_nil, or_false] at hy
    rcases hy with rfl | rfl <;> rfl
  · by_cases q : y = x
    · subst q
      cases hD.symm.trans hy
      exact ⟨E', q1.1, q2.2.1, q2.1, hsz⟩
    · exact ⟨cy, q10 y cy q hy, rfl, rfl, rfl⟩
  · obtain ⟨D3, cf, k, i, f, g1, g2, g3, g4, g5, g6, g7⟩ := F
    cases hD.symm.trans g1
    simp only [RoadKit.slotOf, g2, gV, gC, Option.map_some, Option.getD_some] at n1 n2
    exact ⟨E', cf, k, i, f, q1.1, g2, g3, by rw [q2.1]; exact g4, by rw [q2.1]; exact g5, by rw [q2.2.1]; exact g6, by rw [q2.2.2 f.slot (by simp [n1, n2])]; exact g7⟩
end StrChars.Road
namespace StrChars.Road
open Jvm Sem ClassFile Op Lib Jvm.Stand Jvm.Free Jvm.Free.XT
/-- WHAT COMES BACK, the byte[] as a list of values -/
def QA (Z : State) (x : Addr) (zn : Int32) (cs : List Int32) (h : Heap) (v : Option Value) (h' : Heap) (L : List Loc) : Prop := v = none ∧ (∀ y ∈ L, y.base = x) ∧ RoadKit.Keep h h' [x] ∧ h'.size = h.size + 1 ∧ RoadKit.Exa Z h' x ST ∧ RoadKit.Fld Z h' x ST "value" "[B" (.ref h.size) ∧ RoadKit.Fld Z h' x ST "coder" "B" (.int 0) ∧
  (∃ kb, Z.vm.findClass "[B" = some kb ∧ RoadKit.Arv Z h' h.size kb .byte zn (cs.map fun c => .int (lo8 c)) (.int 0)) ∧
  ∀ (O n d : String) (w : Value), RoadKit.Fld Z h x O n d w → RoadKit.slotOf Z O n d ≠ RoadKit.slotOf Z ST "value" "[B" → RoadKit.slotOf Z O n d ≠ RoadKit.slotOf Z ST "coder" "B" → RoadKit.Fld Z h' x O n d w
/-- **new String(chars) AT A CALL, THE ARRAYS AS LISTS**: the char[] at b holds cs, not empty, no char above 255 -/
theorem backArv {p : Program} {l : Launch} {e : Env} {R : Room} {s : State} {args : Array Value} {below : List Frame} {len W : Nat} {Z : State} {a0 : Array Value} {h : Heap} (hZ : Z.Warmed39 s.vm) (hw : ∀ d ∈ words, d.before a0 Z = true) {kI : Nat} (wi : (Jvm.Cond.instantiable ST kI).before a0 Z = true)
    {x b : Addr} {k : ClassId} {zn z : Int32} {cs : List Int32} {dv v0 c0 : Value} (E : RoadKit.Exa Z h x ST) (V : RoadKit.Fld Z h x ST "value" "[B" v0) (C : RoadKit.Fld Z h x ST "coder" "B" c0) (K : RoadKit.Arv Z h b k .char zn (cs.map Value.int) dv) (S : RoadKit.Sta Z h ST "COMPACT_STRINGS" "Z" (.int z)) (hz : ¬ z = 0)
    (hlen : zn.toNatClampNeg = cs.length) (h0 : 0 < cs.length) (hbig : cs.length ≤ 536870912) (hall : ∀ c ∈ cs, ¬ 255 < c) (hfr : 4 ≤ R.frames) (hlo : W + 65 ≤ R.locals) :
    Back l R p e below s args New1.yN len W (fun P a => a = #[.ref x, .ref b] ∧ P.U.heap = h ∧ P.cells + 1 ≤ R.cells ∧ P.slots + cs.length ≤ R.slots)
      (fun P _ v B => ∃ L, QA Z x zn cs h v B.U.heap L ∧ B.locs = P.locs ++ L ∧ B.cells = P.cells + 1 ∧ B.slots = P.slots + cs.length) := by
  obtain ⟨A, K1, K2, K3, K4, K5, K6⟩ := K
  have e : A.slots.size = cs.length := K3.trans hlen
  have hat : ∀ (i : Nat) (hi : i < cs.length), A.slots[i]? = some (.int cs[i]) := fun i hi => by rw [K5 i (by omega)]; simp [List.getD_eq_getElem?_getD, hi]
  have hcv : ∀ (i : Nat) (hi : i < cs.length), cv A i = cs[i] := fun i hi => by unfold cv; rw [hat i hi]
  have hty : Typed .char A := fun i v hv => by
    have hi : i < A.slots.size := (Array.getElem?_eq_some_iff.mp hv).1
    have q := K5 i hi
    rw [hv] at q
    rw [Option.some.inj q]
    exact K6 i hi
  refine Back.mono (back hZ hw wi E V C K1 hty S hz (by omega) (by omega) (fun i hi => by rw [hcv i (by omega)]; exact hall _ (List.getElem_mem _)) hfr hlo) (fun P a hp => ⟨hp.1, hp.2.1, hp.2.2.1, by rw [e]; exact hp.2.2.2⟩) (fun P a v B hp hq => ?_)
  obtain ⟨L, ⟨q1, q2, q3, q4, q5, q6, q7, ⟨V', v1, v2, v3, v4, v5⟩, q9⟩, hl, hc, hs⟩ := hq
  refine ⟨L, ⟨q1, q2, q3, q4, q5, q6, q7, ⟨V'.cls, v3, V', v1, rfl, by rw [v4, e, hlen], K4, fun i hi => ?_, fun i hi => ?_⟩, q9⟩, hl, hc, by rw [hs, e]⟩
  · have hi' : i < cs.length := by omega
    rw [v5 i (by omega), hcv i hi']; simp [List.getD_eq_getElem?_getD, hi']
  · have hi' : i < cs.length := by omega
    simp only [List.getD_eq_getElem?_getD, List.getElem?_map, List.getElem?_eq_getElem hi', Option.map_some, Option.getD_some]
    exact fits_lo8 _
end StrChars.Road
namespace StrChars.Road
open Jvm Sem ClassFile Op Lib Jvm.Stand Jvm.Free Jvm.Free.XT
/-- WHAT COMES BACK, in the writer's own shape -/
def QV (Z : State) (x : Addr) (N : Int32) (bs : List Int32) (h : Heap) (n0 : Nat) (v : Option Value) (h' : Heap) (L : List Loc) : Prop := v = none ∧ RoadKit.Fr n0 L ∧ RoadKit.Keep h h' [x] ∧ RoadKit.Exa Z h' x ST ∧ RoadKit.Fld Z h' x ST "coder" "B" (.int 0) ∧
  ∃ (t : Addr) (kb : ClassId), n0 ≤ t ∧ h.size ≤ t ∧ ¬ t = x ∧ RoadKit.Fld Z h' x ST "value" "[B" (.ref t) ∧ RoadKit.Arv Z h' t kb .byte N (bs.map Value.int) (.int 0)
/-- **new String(chars) AT A CALL, FOR THE WRITER**: a char[] of n known ints, each 0 to 255 -/
theorem backV {p : Program} {l : Launch} {e : Env} {R : Room} {s : State} {args : Array Value} {below : List Frame} {len W : Nat} {Z : State} {a0 : Array Value} {h : Heap} (hZ : Z.Warmed39 s.vm) (hw : ∀ d ∈ words, d.before a0 Z = true) {kI : Nat} (wi : (Jvm.Cond.instantiable ST kI).before a0 Z = true)
    {x b : Addr} {kC : ClassId} {cs bs : List Int32} {d v0 c0 : Value} {z N : Int32} {n n0 : Nat} (hx0 : n0 ≤ x) (hh0 : n0 ≤ h.size) (E : RoadKit.Exa Z h x ST) (V : RoadKit.Fld Z h x ST "value" "[B" v0) (C : RoadKit.Fld Z h x ST "coder" "B" c0) (K : RoadKit.Arv Z h b kC .char N (cs.map Value.int) d) (S : RoadKit.Sta Z h ST "COMPACT_STRINGS" "Z" (.int z)) (hz : ¬ z = 0)
    (hn : cs.length = n) (hN : N = Int32.ofNat n) (l0 : 0 < n) (l2 : n ≤ 4000) (hp : ∀ c ∈ cs, ¬ c < 0 ∧ ¬ (255 : Int32) < c) (hb : bs = cs.map (fun c => c.toInt8.toInt32)) (hfr : 4 ≤ R.frames) (hlo : W + 65 ≤ R.locals) :
    Back l R p e below s args (⟨"java/lang/String", "<init>", "([C)V"⟩ : MethodName) len W (fun P a => a = #[.ref x, .ref b] ∧ P.U.heap = h ∧ P.cells + 1 ≤ R.cells ∧ P.slots + n ≤ R.slots)
      (fun P _ v B => ∃ L, QV Z x N bs h n0 v B.U.heap L ∧ B.locs = P.locs ++ L ∧ B.cells = P.cells + 1 ∧ B.slots = P.slots + n) := by
  subst hn hN hb
  refine Back.mono (backArv hZ hw wi E V C K S hz (n32 (by omega)) l0 (by omega) (fun c hc => (hp c hc).2) hfr hlo) (fun P a hp => hp) (fun P a v B hp hq => ?_)
  obtain ⟨L, ⟨q1, q2, q3, q4, q5, q6, q7, ⟨kb, v1, v2⟩, q9⟩, hl, hc, hs⟩ := hq
  exact ⟨L, ⟨q1, fun y hy => by rw [q2 y hy]; exact hx0, q3, q5, q7, h.size, kb, hh0, Nat.le_refl _, Nat.ne_of_gt E.lt, q6, by rw [List.map_map]; exact v2⟩, hl, hc, hs⟩
end StrChars.Road
namespace StrChars
open Jvm Sem ClassFile Op Lib Jvm.Stand Jvm.Free.XT Jvm.Free.ALB Jvm.Free.JM Jvm.Free
open Jvm.Lib.Cold (StaticIs)
def hi8 (x : Int32) : Int32 := lo8 (x >>> ((8 : Int32) &&& 31))
/-- what StringUTF16.getChar makes of two bytes -/
def pairCh (u v : Int32) : Int32 := (((u &&& 255) <<< ((0 : Int32) &&& 31)) ||| ((v &&& 255) <<< ((8 : Int32) &&& 31))).toUInt32.toUInt16.toUInt32.toInt32
theorem lo8_and (x : Int32) : (lo8 x &&& 255).toBitVec.toNat = x.toBitVec.toNat % 256 := by
  have h : (lo8 x).toBitVec = (x.toBitVec.signExtend 8).signExtend 32 := by rw [lo8, Int8.toBitVec_toInt32, Int32.toBitVec_toInt8]
  rw [Int32.toBitVec_and, BitVec.toNat_and, h]
  have e : ((x.toBitVec.signExtend 8).signExtend 32).toNat % 256 = x.toBitVec.toNat % 256 := by
    rw [BitVec.toNat_signExtend]
    have hlt := x.toBitVec.isLt
    simp only [BitVec.toNat_setWidth, BitVec.toNat_signExtend]
    split <;> split <;> omega
  rw [← e]
  exact Nat.and_two_pow_sub_one_eq_mod _ 8
theorem pair_says {c : Int32} (h0 : ¬ c < 0) (h1 : ¬ 65535 < c) : pairCh (lo8 c) (hi8 c) = c := by
  rw [Int32.lt_iff_toInt_lt] at h0 h1
  have e0 : (0 : Int32).toInt = 0 := rfl
  have e1 : (65535 : Int32).toInt = 65535 := rfl
  have hc : c.toInt = c.toBitVec.toNat := by
    have := c.toBitVec.isLt
    have e : c.toInt = c.toBitVec.toInt := rfl
    rw [e] at h0 h1
    rw [e]
    rw [BitVec.toInt_eq_toNat_cond] at h0 h1 ⊢
    split at h0 <;> split <;> omega
  have hn : c.toBitVec.toNat < 65536 := by omega
  have a1 := lo8_and c
  have a2 : (hi8 c &&& 255).toBitVec.toNat = c.toBitVec.toNat / 256 := by
    rw [hi8, lo8_and]
    have e : ((8 : Int32) &&& 31) = 8 := by decide
    rw [e, Int32.toBitVec_shiftRight]
    have e2 : ((8 : Int32).toBitVec.smod 32) = 8#32 := by decide
    rw [e2, BitVec.sshiftRight_eq', BitVec.toNat_sshiftRight_of_msb_false (by rw [BitVec.msb_eq_false_iff_two_mul_lt]; omega)]
    show c.toBitVec.toNat >>> 8 % 256 = _
    rw [Nat.shiftRight_eq_div_pow]
    omega
  unfold pairCh
  apply Int32.toBitVec_inj.mp
  apply BitVec.eq_of_toNat_eq
  have f0 : ((0 : Int32) &&& 31) = 0 := by decide
  have f8 : ((8 : Int32) &&& 31) = 8 := by decide
  rw [f0, f8]
  have g : (((lo8 c &&& 255) <<< (0 : Int32)) ||| ((hi8 c &&& 255) <<< (8 : Int32))).toBitVec.toNat = c.toBitVec.toNat := by
    rw [Int32.toBitVec_or, Int32.toBitVec_shiftLeft, Int32.toBitVec_shiftLeft]
    have s0 : ((0 : Int32).toBitVec.smod 32) = 0#32 := by decide
    have s8 : ((8 : Int32).toBitVec.smod 32) = 8#32 := by decide
    rw [s0, s8, BitVec.toNat_or]
    simp only [BitVec.shiftLeft_eq', BitVec.toNat_shiftLeft, a1, a2]
    show (c.toBitVec.toNat % 256) <<< 0 % 2 ^ 32 ||| (c.toBitVec.toNat / 256) <<< 8 % 2 ^ 32 = _
    rw [Nat.shiftLeft_zero, Nat.mod_eq_of_lt (show c.toBitVec.toNat % 256 < 2 ^ 32 by omega), Nat.mod_eq_of_lt (show (c.toBitVec.toNat / 256) <<< 8 < 2 ^ 32 by rw [Nat.shiftLeft_eq]; omega), Nat.or_comm, ← Nat.shiftLeft_add_eq_or_of_lt (by omega), Nat.shiftLeft_eq]
    omega
  show BitVec.toNat (((((lo8 c &&& 255) <<< (0 : Int32)) ||| ((hi8 c &&& 255) <<< (8 : Int32))).toBitVec.setWidth 16).setWidth 32) = _
  rw [BitVec.toNat_setWidth, BitVec.toNat_setWidth, g]
  omega
end StrChars
namespace StrChars
open Jvm Sem ClassFile Op Lib Jvm.Stand Jvm.Free.XT Jvm.Free.ALB Jvm.Free.JM Jvm.Free
open Jvm.Lib.Cold (StaticIs)
/-- the array's cell V codes the n chars f 0 .. f (n - 1) by the coder cd, as the JDK does: coder 1 just where some char is above 255 -/
def Cod (cd : Int32) (n : Nat) (f : Nat → Int32) (V : Cell) : Prop := (cd = 0 ∧ V.slots.size = n ∧ ∀ j, j < n → V.slots[j]? = some (.int (lo8 (f j))) ∧ ¬ 255 < f j) ∨ (cd = 1 ∧ V.slots.size = 2 * n ∧ (∀ j, j < n → V.slots[2 * j]? = some (.int (lo8 (f j))) ∧ V.slots[2 * j + 1]? = some (.int (hi8 (f j)))) ∧ ∃ j, j < n ∧ 255 < f j)
/-- **x is a String of the n chars f 0 .. f (n - 1)**, Latin-1 or UTF-16; its array at t has the cell V -/
def Txt (x t : Addr) (V : Cell) (cd : Int32) (n : Nat) (f : Nat → Int32) (U : State) : Prop := Exact "java/lang/String" x U ∧ Has x "java/lang/String" "value" "[B" (.ref t) U ∧ Has x "java/lang/String" "coder" "B" (.int cd) U ∧ XT.Arr .byte t V U ∧ Cod cd n f V ∧ ∀ j, j < n → ¬ f j < 0 ∧ ¬ 65535 < f j
theorem Txt.mv {x t : Addr} {V : Cell} {cd : Int32} {n : Nat} {f : Nat → Int32} {U U' : State} (h : Txt x t V cd n f U) (hal : U.vm.Alike U'.vm) (hh : U'.heap = U.heap) : Txt x t V cd n f U' := ⟨h.1.mv hal hh, h.2.1.mv hal hh, h.2.2.1.mv hal hh, h.2.2.2.1.mv hal hh, h.2.2.2.2⟩
end StrChars
namespace StrChars.Road
open Jvm Sem ClassFile Op Lib Jvm.Stand Jvm.Free Jvm.Free.XT
open Jvm.Lib.Cold (StaticIs)
theorem consq {a : Array Value} {s : State} {c : Jvm.Cond} {L : List Jvm.Cond} (h0 : c.before a s = true) (h : ∀ w ∈ L, w.before a s = true) : ∀ w ∈ c :: L, w.before a s = true := fun w hw => (List.mem_cons.mp hw).elim (fun e => e ▸ h0) (h w)
/-- the bytes of the chars cs, low before high -/
def wideBytes : List Int32 → List Value
  | [] => []
  | c :: cs => .int (lo8 c) :: .int (hi8 c) :: wideBytes cs
theorem wide_lo (d : Value) : ∀ (cs : List Int32) (j : Nat), j < cs.length → (wideBytes cs).getD (2 * j) d = .int (lo8 (cs.getD j 0))
  | [], j, h => absurd h (Nat.not_lt_zero j)
  | c :: cs, 0, _ => rfl
  | c :: cs, j + 1, h => by
    have q := wide_lo d cs j (by simpa using h)
    rw [show 2 * (j + 1) = 2 * j + 1 + 1 from by omega]
    simpa [wideBytes] using q
theorem wide_hi (d : Value) : ∀ (cs : List Int32) (j : Nat), j < cs.length → (wideBytes cs).getD (2 * j + 1) d = .int (hi8 (cs.getD j 0))
  | [], j, h => absurd h (Nat.not_lt_zero j)
  | c :: cs, 0, _ => rfl
  | c :: cs, j + 1, h => by
    have q := wide_hi d cs j (by simpa using h)
    rw [show 2 * (j + 1) + 1 = 2 * j + 1 + 1 + 1 from by omega]
    simpa [wideBytes] using q
theorem low_at (d : Value) (cs : List Int32) (j : Nat) (h : j < cs.length) : (cs.map fun c => Value.int (lo8 c)).getD j d = .int (lo8 (cs.getD j 0)) := by
  simp [List.getD_eq_getElem?_getD, h]
/-- an array of N2 bytes vs codes the chars cs by the coder cd -/
def CodA (cs : List Int32) (cd N2 : Int32) (vs : List Value) : Prop := (cd = 0 ∧ N2 = Int32.ofNat cs.length ∧ vs = (cs.map fun c => Value.int (lo8 c)) ∧ ∀ c ∈ cs, ¬ 255 < c) ∨ (cd = 1 ∧ N2 = Int32.ofNat (2 * cs.length) ∧ vs = wideBytes cs ∧ ∃ c ∈ cs, 255 < c)
theorem CodA.cod {cs : List Int32} {cd N2 : Int32} {vs : List Value} {V : Cell} (h : CodA cs cd N2 vs) (hn : 2 * cs.length < 2 ^ 31) (hs : V.slots.size = N2.toNatClampNeg) (hv : RoadKit.Has V vs (.int 0)) : Cod cd cs.length (fun j => cs.getD j 0) V := by
  rcases h with ⟨rfl, rfl, rfl, h⟩ | ⟨rfl, rfl, rfl, c, hc, hw⟩
  · rw [n32 (by omega)] at hs
    exact Or.inl ⟨rfl, hs, fun j hj => ⟨by rw [hv j (by omega), low_at _ _ _ hj], by
      have e : cs.getD j 0 = cs[j] := by simp [List.getD_eq_getElem?_getD, hj]
      show ¬ 255 < cs.getD j 0
      rw [e]; exact h _ (List.getElem_mem _)⟩⟩
  · rw [n32 (by omega)] at hs
    obtain ⟨j, hj, rfl⟩ := List.getElem_of_mem hc
    exact Or.inr ⟨rfl, hs, fun j hj => ⟨by rw [hv _ (by omega), wide_lo _ _ _ hj], by rw [hv _ (by omega), wide_hi _ _ _ hj]⟩, j, hj, by
      have e : cs.getD j 0 = cs[j] := by simp [List.getD_eq_getElem?_getD, hj]
      show 255 < cs.getD j 0
      rw [e]; exact hw⟩
/-- an object of exactly java/lang/String, its two fields found: as the laws ask it -/
theorem strObj {Z U : State} {a0 : Array Value} {kI : Nat} (wi : (Jvm.Cond.instantiable ST kI).before a0 Z = true) (al : Z.vm.Alike U.vm) {x : Addr} {v0 c0 : Value} (E : RoadKit.Exa Z U.heap x ST) (V : RoadKit.Fld Z U.heap x ST "value" "[B" v0) (C : RoadKit.Fld Z U.heap x ST "coder" "B" c0) :
    ∃ (D : Cell) (fV fC : Field), Blank ST x D U ∧ Found ST "value" "[B" fV U ∧ Found ST "coder" "B" fC U ∧ D.slots[fV.slot]? = some v0 ∧ D.slots[fC.slot]? = some c0 ∧ RoadKit.slotOf Z ST "value" "[B" = fV.slot ∧ RoadKit.slotOf Z ST "coder" "B" = fC.slot := by
  obtain ⟨D, cfV, kV, iV, fV, hD, gV, stV, knV, obV, asV, slV⟩ := V
  obtain ⟨D', cfC, kC, iC, fC, hD', gC, stC, -, -, asC, slC⟩ := C
  cases hD.symm.trans hD'
  obtain ⟨D2, kD, e1, e2, e3, e4, e5⟩ := E
  cases hD.symm.trans e1
  obtain ⟨c2, k2, i1, i2, i3, -⟩ := Cond.instantiable_spec wi
  cases e2.symm.trans i1
  cases e3.symm.trans i2
  obtain ⟨kU, u1, u2⟩ := al.2.2 _ _ e3
  exact ⟨D, fV, fC, ⟨hD, ⟨knV, fun q hq => by rw [hq] at obV; cases obV⟩, by rw [al.findClass]; exact e2, kU, u1, by rw [u2]; exact i3, by rw [u2]; exact e5 i3⟩, ⟨SBG.found_only al ⟨cfV, kV, iV, gV⟩, stV⟩, ⟨SBG.found_only al ⟨cfC, kC, iC, gC⟩, stC⟩, slV, slC, by simp [RoadKit.slotOf, gV], by simp [RoadKit.slotOf, gC]⟩
theorem sta_is {Z U : State} (al : Z.vm.Alike U.vm) {C n d : String} {v : Value} (S : RoadKit.Sta Z U.heap C n d v) : StaticIs U C n d v := by
  obtain ⟨cfS, iS, kS, fS, st, cS, t1, t2, t3, t4, t5, t6, t7⟩ := S
  exact StaticIs.there (s := { Z with heap := U.heap }) ⟨cfS, iS, kS, fS, st, cS, t1, t2, t3, t4, t5, (fun q => by rw [q] at t6; cases t6), t7⟩ al rfl
end StrChars.Road
namespace StrChars
open Jvm Sem ClassFile Op Lib Jvm.Stand Jvm.Free.XT Jvm.Free.ALB Jvm.Free.JM Jvm.Free
open Jvm.Lib.Cold (StaticIs)
/-- what place i of a byte[]'s cell holds -/
def yv (A : Cell) (i : Nat) : Int32 := match A.slots[i]? with | some (.int x) => x | _ => 0
theorem yv_get {a : Addr} {A : Cell} {U : State} (h : XT.Arr .byte a A U) (ht : Typed .byte A) {i : Nat} (hi : i < A.slots.size) : A.slots[i]? = some (.int (yv A i)) := by
  have e := Array.getElem?_eq_getElem hi
  have f := ht i _ e
  unfold yv; rw [e]
  generalize A.slots[i] = v at f
  cases v <;> simp [fits] at f ⊢
/-- the two arrays are equal, place for place -/
def EqC (A B : Cell) : Prop := A.slots.size = B.slots.size ∧ ∀ i, i < A.slots.size → yv A i = yv B i
/-- a boolean that says whether p -/
def Says01 (q : Prop) (r : Option Value) (s u : State) : Prop := ∃ v : Int32, r = some (.int v) ∧ u.heap = s.heap ∧ ((v = 1 ∧ q) ∨ (v = 0 ∧ ¬ q))
theorem Says01.mv {q : Prop} : ∀ r (U U' V V' : State), U'.heap = U.heap → V.vm.Alike V'.vm → V'.heap = V.heap → Says01 q r U V → Says01 q r U' V' :=
  fun r U U' V V' h1 _ h2 ⟨v, a, b, c⟩ => ⟨v, a, by rw [h1, h2]; exact b, c⟩
namespace LEq
def yN : MethodName := ⟨"java/lang/StringLatin1", "equals", "([B[B)Z"⟩
abbrev yB : ByteArray := jdk_43_method_13_code
theorem d0 : decode yB 0 = .ok (.aload_n 0, 1) := by decide +kernel
theorem d1 : decode yB 1 = .ok (.arraylength, 1) := by decide +kernel
theorem d2 : decode yB 2 = .ok (.aload_n 1, 1) := by decide +kernel
theorem d3 : decode yB 3 = .ok (.arraylength, 1) := by decide +kernel
theorem d4 : decode yB 4 = .ok (.if_icmp (.ne) 30, 3) := by decide +kernel
theorem d7 : decode yB 7 = .ok (.iconst 0, 1) := by decide +kernel
theorem d8 : decode yB 8 = .ok (.istore_n 2, 1) := by decide +kernel
theorem d9 : decode yB 9 = .ok (.iload_n 2, 1) := by decide +kernel
theorem d10 : decode yB 10 = .ok (.aload_n 0, 1) := by decide +kernel
theorem d11 : decode yB 11 = .ok (.arraylength, 1) := by decide +kernel
theorem d12 : decode yB 12 = .ok (.if_icmp (.ge) 20, 3) := by decide +kernel
theorem d15 : decode yB 15 = .ok (.aload_n 0, 1) := by decide +kernel
theorem d16 : decode yB 16 = .ok (.iload_n 2, 1) := by decide +kernel
theorem d17 : decode yB 17 = .ok (.baload, 1) := by decide +kernel
theorem d18 : decode yB 18 = .ok (.aload_n 1, 1) := by decide +kernel
theorem d19 : decode yB 19 = .ok (.iload_n 2, 1) := by decide +kernel
theorem d20 : decode yB 20 = .ok (.baload, 1) := by decide +kernel
theorem d21 : decode yB 21 = .ok (.if_icmp (.eq) 5, 3) := by decide +kernel
theorem d24 : decode yB 24 = .ok (.iconst 0, 1) := by decide +kernel
theorem d25 : decode yB 25 = .ok (.ireturn, 1) := by decide +kernel
theorem d26 : decode yB 26 = .ok (.iinc 2 1, 3) := by decide +kernel
theorem d29 : decode yB 29 = .ok (.goto (-20), 3) := by decide +kernel
theorem d32 : decode yB 32 = .ok (.iconst 1, 1) := by decide +kernel
theorem d33 : decode yB 33 = .ok (.ireturn, 1) := by decide +kernel
theorem d34 : decode yB 34 = .ok (.iconst 0, 1) := by decide +kernel
theorem d35 : decode yB 35 = .ok (.ireturn, 1) := by decide +kernel
def site : List Cond := []
def tab : Cond := tabOf yN yB 3 (some .boolean) site
def P (a : Addr) (A : Cell) (b : Addr) (B : Cell) (args : Array Value) (s : State) : Prop := args = #[.ref a, .ref b] ∧ XT.Arr .byte a A s ∧ Typed .byte A ∧ XT.Arr .byte b B s ∧ Typed .byte B
/-- whether two byte[] are equal, place for place -/
theorem law (l : Launch) (a : Addr) (A : Cell) (b : Addr) (B : Cell) : Law l yN 2 2 0 0 yB 3 (some .boolean) site (P a A b B) (Says01 (EqC A B)) [] 0 0 := by
  refine Law.of_walk (plainFor_of_name (by decide +kernel)) (by decide +kernel) (by decide +kernel) (by decide) (fun _ _ h => by rw [h.1]; rfl) (fun _ U U' hal hh h => ⟨h.1, h.2.1.mv hal hh, h.2.2.1, h.2.2.2.1.mv hal hh, h.2.2.2.2⟩) (fun r U U' V V' h1 hal h2 h => Says01.mv r U U' V V' h1 hal h2 h) ?_
  intro p e s m args below meth c s₁ X0 hexec hbytes hml hret hlk hnm hown hh0 W hP
  obtain ⟨rfl, hA, tA, hB, tB⟩ := hP
  have a31 := hA.2.2.2
  have b31 := hB.2.2.2
  have hA0 := hA.mv X0.warmed.alike hh0
  have hB0 := hB.mv X0.warmed.alike hh0
  have c1 : Steps p.tables e below (s₁.setTop (entryFrame m #[.ref a, .ref b] 3)) (s₁.setTop (mkF m 0 #[.val (.ref a), .val (.ref b), .unset] [])) := entry rfl
  have c2 : Steps p.tables e below (s₁.setTop (entryFrame m #[.ref a, .ref b] 3)) (s₁.setTop (mkF m 4 #[.val (.ref a), .val (.ref b), .unset] [.int (Int32.ofNat B.slots.size), .int (Int32.ofNat A.slots.size)])) := c1.trans (by
    refine XS.aloadN X0.here hexec rfl (hb hbytes d0) rfl rfl ?_
    refine X0.alen hexec hA0 rfl rfl (hb hbytes d1) ?_
    refine XS.aloadN X0.here hexec rfl (hb hbytes d2) rfl rfl ?_
    refine X0.alen hexec hB0 rfl rfl (hb hbytes d3) ?_
    exact Steps.refl _)
  by_cases hs : A.slots.size = B.slots.size
  · have c3 : Steps p.tables e below (s₁.setTop (entryFrame m #[.ref a, .ref b] 3)) (s₁.setTop (mkF m 9 #[.val (.ref a), .val (.ref b), .val (.int 0)] [])) := c2.trans (by
      refine XS.icmpNo X0.here hexec rfl (hb hbytes d4) rfl (ii_ne_f (by rw [hs])) ?_
      refine iconstV X0.here hexec rfl 0 (hb hbytes d7) (by decide) ?_
      refine XS.istoreN X0.here hexec rfl (hb hbytes d8) rfl rfl ?_
      exact Steps.refl _)
    have loop : ∀ (r i : Nat), i + r = A.slots.size → (∀ j, j < i → yv A j = yv B j) → Steps p.tables e below (s₁.setTop (entryFrame m #[.ref a, .ref b] 3)) (s₁.setTop (mkF m 9 #[.val (.ref a), .val (.ref b), .val (.int (Int32.ofNat i))] [])) → ∃ (pc : Nat) (Ls : Array Slot) (v : Int32), (pc = 25 ∨ pc = 33) ∧ ((v = 1 ∧ EqC A B) ∨ (v = 0 ∧ ¬ EqC A B)) ∧ Steps p.tables e below (s₁.setTop (entryFrame m #[.ref a, .ref b] 3)) (s₁.setTop (mkF m pc Ls [.int v])) := by
      intro r
      induction r with
      | zero =>
        intro i hi he cl
        exact ⟨33, _, 1, Or.inr rfl, Or.inl ⟨rfl, hs, fun j hj => he j (by omega)⟩, cl.trans (by
          refine XS.iloadN X0.here hexec rfl (hb hbytes d9) rfl ?_
          refine XS.aloadN X0.here hexec rfl (hb hbytes d10) rfl rfl ?_
          refine X0.alen hexec hA0 rfl rfl (hb hbytes d11) ?_
          refine XS.icmpYes X0.here hexec rfl (pc0 := 12) rfl (hb hbytes d12) rfl (ii_ge_t (nlt32 (by omega) (by omega))) (by decide) rfl ?_
          refine iconstV X0.here hexec rfl 1 (hb hbytes d32) (by decide) ?_
          exact Steps.refl _)⟩
      | succ r ih =>
        intro i hi he cl
        have c4 : Steps p.tables e below (s₁.setTop (entryFrame m #[.ref a, .ref b] 3)) (s₁.setTop (mkF m 21 #[.val (.ref a), .val (.ref b), .val (.int (Int32.ofNat i))] [.int (yv B i), .int (yv A i)])) := cl.trans (by
          refine XS.iloadN X0.here hexec rfl (hb hbytes d9) rfl ?_
          refine XS.aloadN X0.here hexec rfl (hb hbytes d10) rfl rfl ?_
          refine X0.alen hexec hA0 rfl rfl (hb hbytes d11) ?_
          refine XS.icmpNo X0.here hexec rfl (hb hbytes d12) rfl (ii_ge_f (lt32 (by omega) (by omega))) ?_
          refine XS.aloadN X0.here hexec rfl (hb hbytes d15) rfl rfl ?_
          refine XS.iloadN X0.here hexec rfl (hb hbytes d16) rfl ?_
          refine X0.aget hexec hA0 rfl (yv_get hA tA (i := i) (by omega)) rfl rfl (hb hbytes d17) ?_
          refine XS.aloadN X0.here hexec rfl (hb hbytes d18) rfl rfl ?_
          refine XS.iloadN X0.here hexec rfl (hb hbytes d19) rfl ?_
          refine X0.aget hexec hB0 rfl (yv_get hB tB (i := i) (by omega)) rfl rfl (hb hbytes d20) ?_
          exact Steps.refl _)
        by_cases hv : yv A i = yv B i
        · have c5 : Steps p.tables e below (s₁.setTop (entryFrame m #[.ref a, .ref b] 3)) (s₁.setTop (mkF m 9 #[.val (.ref a), .val (.ref b), .val (.int (Int32.ofNat i + 1))] [])) := c4.trans (by
            refine XS.icmpYes X0.here hexec rfl (pc0 := 21) rfl (hb hbytes d21) rfl (ii_eq_t hv) (by decide) rfl ?_
            refine iincV X0.here hexec rfl 1 (hb hbytes d26) (by decide) rfl rfl ?_
            refine XS.goto X0.here hexec rfl (pc0 := 29) rfl (hb hbytes d29) (by decide) rfl ?_
            exact Steps.refl _)
          rw [succ32] at c5
          exact ih (i + 1) (by omega) (fun j hj => by
            by_cases e : j = i
            · rw [e]; exact hv
            · exact he j (by omega)) c5
        · exact ⟨25, _, 0, Or.inl rfl, Or.inr ⟨rfl, fun q => hv (q.2 i (by omega))⟩, c4.trans (by
            refine XS.icmpNo X0.here hexec rfl (hb hbytes d21) rfl (ii_eq_f hv) ?_
            refine iconstV X0.here hexec rfl 0 (hb hbytes d24) (by decide) ?_
            exact Steps.refl _)⟩
    obtain ⟨pc, Ls, v, hpc, hv, cz⟩ := loop A.slots.size 0 (by omega) (fun j hj => absurd hj (Nat.not_lt_zero j)) c3
    have nv : narrow .boolean (.int v) = .int v := by rcases hv with ⟨rfl, -⟩ | ⟨rfl, -⟩ <;> rfl
    rcases hpc with rfl | rfl
    · exact ⟨s₁, some (.int v), _, _, _, X0, rfl, rfl, rfl, (fun h => by cases h), ⟨v, rfl, hh0, hv⟩, fun fs hl => cz.trans (X0.ireturnOut hexec hret nv (Or.inr (Or.inl rfl)) (hb hbytes d25) hl)⟩
    · exact ⟨s₁, some (.int v), _, _, _, X0, rfl, rfl, rfl, (fun h => by cases h), ⟨v, rfl, hh0, hv⟩, fun fs hl => cz.trans (X0.ireturnOut hexec hret nv (Or.inr (Or.inl rfl)) (hb hbytes d33) hl)⟩
  · have c3 : Steps p.tables e below (s₁.setTop (entryFrame m #[.ref a, .ref b] 3)) (s₁.setTop (mkF m 35 #[.val (.ref a), .val (.ref b), .unset] [.int 0])) := c2.trans (by
      refine XS.icmpYes X0.here hexec rfl (pc0 := 4) rfl (hb hbytes d4) rfl (ii_ne_t (ne32 a31 b31 hs)) (by decide) rfl ?_
      refine iconstV X0.here hexec rfl 0 (hb hbytes d34) (by decide) ?_
      exact Steps.refl _)
    exact ⟨s₁, some (.int 0), _, _, _, X0, rfl, rfl, rfl, (fun h => by cases h), ⟨0, rfl, hh0, Or.inr ⟨rfl, fun q => hs q.1⟩⟩, fun fs hl => c3.trans (X0.ireturnOut hexec hret rfl (Or.inr (Or.inl rfl)) (hb hbytes d35) hl)⟩
end LEq
theorem Cod.ty {cd : Int32} {n : Nat} {f : Nat → Int32} {V : Cell} (h : Cod cd n f V) : Typed .byte V := fun i v hv => by
  have hi : i < V.slots.size := (Array.getElem?_eq_some_iff.mp hv).1
  rcases h with ⟨-, k1, k2⟩ | ⟨-, k1, k2, -⟩
  · rw [(k2 i (by omega)).1] at hv; cases hv; exact fits_lo8 _
  · rcases Nat.mod_two_eq_zero_or_one i with e | e
    · obtain ⟨j, rfl⟩ : ∃ j, i = 2 * j := ⟨i / 2, by omega⟩
      rw [(k2 j (by omega)).1] at hv; cases hv; exact fits_lo8 _
    · obtain ⟨j, rfl⟩ : ∃ j, i = 2 * j + 1 := ⟨i / 2, by omega⟩
      rw [(k2 j (by omega)).2] at hv; cases hv; exact fits_lo8 _
/-- the same text -/
def SameT (n : Nat) (f : Nat → Int32) (k : Nat) (g : Nat → Int32) : Prop := n = k ∧ ∀ j, j < n → f j = g j
theorem lo8_inj {x y : Int32} (h0 : ¬ x < 0) (h1 : ¬ 255 < x) (k0 : ¬ y < 0) (k1 : ¬ 255 < y) (h : lo8 x = lo8 y) : x = y := by
  rw [← lo8_mask h0 h1, ← lo8_mask k0 k1, h]
/-- arrays coded by one coder are equal just where the texts are -/
theorem Cod.eqv {cd : Int32} {n k : Nat} {f g : Nat → Int32} {V V' : Cell} (h : Cod cd n f V) (h' : Cod cd k g V') (hf : ∀ j, j < n → ¬ f j < 0 ∧ ¬ 65535 < f j) (hg : ∀ j, j < k → ¬ g j < 0 ∧ ¬ 65535 < g j) : EqC V V' ↔ SameT n f k g := by
  have yvv : ∀ {W : Cell} {i : Nat} {x : Int32}, W.slots[i]? = some (.int x) → yv W i = x := fun q => by unfold yv; rw [q]
  rcases h with ⟨rfl, k1, k2⟩ | ⟨rfl, k1, k2, -⟩
  · rcases h' with ⟨-, m1, m2⟩ | ⟨e, -⟩
    · constructor
      · rintro ⟨e1, e2⟩
        refine ⟨by omega, fun j hj => ?_⟩
        have q := e2 j (by omega)
        rw [yvv (k2 j hj).1, yvv (m2 j (by omega)).1] at q
        exact lo8_inj (hf j hj).1 (k2 j hj).2 (hg j (by omega)).1 (m2 j (by omega)).2 q
      · rintro ⟨rfl, e2⟩
        refine ⟨by omega, fun j hj => ?_⟩
        rw [yvv (k2 j (by omega)).1, yvv (m2 j (by omega)).1, e2 j (by omega)]
    · exact absurd e (by decide)
  · rcases h' with ⟨e, -⟩ | ⟨-, m1, m2, -⟩
    · exact absurd e (by decide)
    · constructor
      · rintro ⟨e1, e2⟩
        refine ⟨by omega, fun j hj => ?_⟩
        have q1 := e2 (2 * j) (by omega)
        have q2 := e2 (2 * j + 1) (by omega)
        rw [yvv (k2 j hj).1, yvv (m2 j (by omega)).1] at q1
        rw [yvv (k2 j hj).2, yvv (m2 j (by omega)).2] at q2
        rw [← pair_says (hf j hj).1 (hf j hj).2, ← pair_says (hg j (by omega)).1 (hg j (by omega)).2, q1, q2]
      · rintro ⟨rfl, e2⟩
        refine ⟨by omega, fun i hi => ?_⟩
        rcases Nat.mod_two_eq_zero_or_one i with e | e
        · obtain ⟨j, rfl⟩ : ∃ j, i = 2 * j := ⟨i / 2, by omega⟩
          rw [yvv (k2 j (by omega)).1, yvv (m2 j (by omega)).1, e2 j (by omega)]
        · obtain ⟨j, rfl⟩ : ∃ j, i = 2 * j + 1 := ⟨i / 2, by omega⟩
          rw [yvv (k2 j (by omega)).2, yvv (m2 j (by omega)).2, e2 j (by omega)]
/-- two codings differ: so do the texts -/
theorem Cod.dif {cd cd' : Int32} {n k : Nat} {f g : Nat → Int32} {V V' : Cell} (h : Cod cd n f V) (h' : Cod cd' k g V') (hne : ¬ cd = cd') : ¬ SameT n f k g := by
  rintro ⟨rfl, e⟩
  rcases h with ⟨rfl, -, k2⟩ | ⟨rfl, -, -, j, hj, hw⟩
  · rcases h' with ⟨rfl, -⟩ | ⟨-, -, -, j, hj, hw⟩
    · exact hne rfl
    · exact (k2 j hj).2 (by rw [e j hj]; exact hw)
  · rcases h' with ⟨-, -, m2⟩ | ⟨rfl, -⟩
    · exact (m2 j hj).2 (by rw [← e j hj]; exact hw)
    · exact hne rfl
/-- an object of exactly C is an instance of C -/
theorem cinst {p : Program} {l : Launch} {e : Env} {R : Room} {s : State} {m : MethodId} {args : Array Value} {below : List Frame} {meth : Method} {c : Code} {T : State} {locs : List Loc} {cells slots : Nat} (X : Stand p l e R s m args below meth c T locs cells slots) (hexec : p.tables.exec = Jvm.exec) {own C : String} {index : Nat} (hown : s.vm.findClass own = some m.cls) (hlink : (Cond.classLink own index C).before args s = true) {a : Addr} (hE : Exact C a T)
    {g : JFrame} (hg : g.method = m) {rest : List Value} (hstack : g.stack = .ref a :: rest) (hdg : decode c.code g.pc = .ok (.instanceof index, 3)) :
    ∃ T', Stand p l e R s m args below meth c T' locs cells slots ∧ T'.heap = T.heap ∧ ∀ target, Steps p.tables e below (T'.setTop { g with pc := g.pc + 3, stack := .int 1 :: rest }) target → Steps p.tables e below (T.setTop g) target := by
  obtain ⟨cB, h1, D, h2, h3, h4⟩ := hE
  have h1' : s.vm.findClass C = some cB := by rw [← X.warmed.alike.findClass]; exact h1
  obtain ⟨vm', X', st⟩ := X.instanceofYes hexec hown hlink h2 h4 h1' (by rw [h3]; exact Jvm.Free.SB.assignable_self _ _) hg hstack hdg
  exact ⟨_, X', rfl, st⟩
theorem cself {p : Program} {l : Launch} {e : Env} {R : Room} {s : State} {m : MethodId} {args : Array Value} {below : List Frame} {meth : Method} {c : Code} {T : State} {locs : List Loc} {cells slots : Nat} (X : Stand p l e R s m args below meth c T locs cells slots) (hexec : p.tables.exec = Jvm.exec) {own C : String} {index : Nat} (hown : s.vm.findClass own = some m.cls) (hlink : (Cond.classLink own index C).before args s = true) {a : Addr} (hE : Exact C a T)
    {g : JFrame} (hg : g.method = m) {rest : List Value} (hstack : g.stack = .ref a :: rest) (hdg : decode c.code g.pc = .ok (.checkcast index, 3)) :
    ∃ T', Stand p l e R s m args below meth c T' locs cells slots ∧ T'.heap = T.heap ∧ ∀ target, Steps p.tables e below (T'.setTop { g with pc := g.pc + 3, stack := .ref a :: rest }) target → Steps p.tables e below (T.setTop g) target := by
  obtain ⟨cB, h1, D, h2, h3, h4⟩ := hE
  have h1' : s.vm.findClass C = some cB := by rw [← X.warmed.alike.findClass]; exact h1
  obtain ⟨vm', X', st⟩ := X.checkcastYes hexec hown hlink h2 h4 h1' (by rw [h3]; exact Jvm.Free.SB.assignable_self _ _) hg hstack hdg
  exact ⟨_, X', rfl, fun t h => st t (by rw [← hstack] at h; exact h)⟩
namespace SEq
def yN : MethodName := ⟨"java/lang/String", "equals", "(Ljava/lang/Object;)Z"⟩
abbrev yB : ByteArray := jdk_42_method_66_code
theorem d0 : decode yB 0 = .ok (.aload_n 0, 1) := by decide +kernel
theorem d1 : decode yB 1 = .ok (.aload_n 1, 1) := by decide +kernel
theorem d2 : decode yB 2 = .ok (.if_acmp (.ne) 5, 3) := by decide +kernel
theorem d5 : decode yB 5 = .ok (.iconst 1, 1) := by decide +kernel
theorem d6 : decode yB 6 = .ok (.ireturn, 1) := by decide +kernel
theorem d7 : decode yB 7 = .ok (.aload_n 1, 1) := by decide +kernel
theorem d8 : decode yB 8 = .ok (.instanceof 10, 3) := by decide +kernel
theorem d11 : decode yB 11 = .ok (.ifCond (.eq) 43, 3) := by decide +kernel
theorem d14 : decode yB 14 = .ok (.aload_n 1, 1) := by decide +kernel
theorem d15 : decode yB 15 = .ok (.checkcast 10, 3) := by decide +kernel
theorem d18 : decode yB 18 = .ok (.astore_n 2, 1) := by decide +kernel
theorem d19 : decode yB 19 = .ok (.getstatic 38, 3) := by decide +kernel
theorem d22 : decode yB 22 = .ok (.ifCond (.eq) 14, 3) := by decide +kernel
theorem d25 : decode yB 25 = .ok (.aload_n 0, 1) := by decide +kernel
theorem d26 : decode yB 26 = .ok (.getfield 15, 3) := by decide +kernel
theorem d29 : decode yB 29 = .ok (.aload_n 2, 1) := by decide +kernel
theorem d30 : decode yB 30 = .ok (.getfield 15, 3) := by decide +kernel
theorem d33 : decode yB 33 = .ok (.if_icmp (.ne) 21, 3) := by decide +kernel
theorem d36 : decode yB 36 = .ok (.aload_n 0, 1) := by decide +kernel
theorem d37 : decode yB 37 = .ok (.getfield 9, 3) := by decide +kernel
theorem d40 : decode yB 40 = .ok (.aload_n 2, 1) := by decide +kernel
theorem d41 : decode yB 41 = .ok (.getfield 9, 3) := by decide +kernel
theorem d44 : decode yB 44 = .ok (.invokestatic 541, 3) := by decide +kernel
theorem d47 : decode yB 47 = .ok (.ifCond (.eq) 7, 3) := by decide +kernel
theorem d50 : decode yB 50 = .ok (.iconst 1, 1) := by decide +kernel
theorem d51 : decode yB 51 = .ok (.goto 4, 3) := by decide +kernel
theorem d54 : decode yB 54 = .ok (.iconst 0, 1) := by decide +kernel
theorem d55 : decode yB 55 = .ok (.ireturn, 1) := by decide +kernel
def site : List Cond := [.classLink "java/lang/String" 10 "java/lang/String", .fieldLink "java/lang/String" 38 "java/lang/String" "COMPACT_STRINGS" "Z", .fieldLink "java/lang/String" 15 "java/lang/String" "coder" "B", .fieldLink "java/lang/String" 9 "java/lang/String" "value" "[B", LEq.tab] ++ staticW "java/lang/String" 541 LEq.yN
def tab : Cond := tabOf yN yB 3 (some .boolean) site
def P (x t : Addr) (V : Cell) (cd : Int32) (n : Nat) (f : Nat → Int32) (y t' : Addr) (V' : Cell) (cd' : Int32) (k : Nat) (g : Nat → Int32) (z : Int32) (args : Array Value) (s : State) : Prop := args = #[.ref x, .ref y] ∧ Txt x t V cd n f s ∧ Txt y t' V' cd' k g s ∧ StaticIs s "java/lang/String" "COMPACT_STRINGS" "Z" (.int z) ∧ ¬ z = 0
/-- equals(Object) of two Strings: whether the texts are the same -/
theorem law (l : Launch) (x t : Addr) (V : Cell) (cd : Int32) (n : Nat) (f : Nat → Int32) (y t' : Addr) (V' : Cell) (cd' : Int32) (k : Nat) (g : Nat → Int32) (z : Int32) : Law l yN 2 1 1 14 yB 3 (some .boolean) site (P x t V cd n f y t' V' cd' k g z) (Says01 (SameT n f k g)) [] 0 0 := by
  refine Law.of_walk (plainFor_of_name (by decide +kernel)) (by decide +kernel) (by decide +kernel) (by decide) (fun _ _ h => by rw [h.1]; rfl) (fun _ U U' hal hh h => ⟨h.1, h.2.1.mv hal hh, h.2.2.1.mv hal hh, h.2.2.2.1.there hal hh, h.2.2.2.2⟩) (fun r U U' V V' h1 hal h2 h => Says01.mv r U U' V V' h1 hal h2 h) ?_
  intro p e s m args below meth c s₁ X0 hexec hbytes hml hret hlk hnm hown hh0 W hP
  obtain ⟨rfl, hx, hy, s1, hz⟩ := hP
  have c1 : Steps p.tables e below (s₁.setTop (entryFrame m #[.ref x, .ref y] 3)) (s₁.setTop (mkF m 2 #[.val (.ref x), .val (.ref y), .unset] [.ref y, .ref x])) := Steps.trans (entry rfl) (by
    show Steps p.tables e below (s₁.setTop (mkF m 0 #[.val (.ref x), .val (.ref y), .unset] [])) _
    refine XS.aloadN X0.here hexec rfl (hb hbytes d0) rfl rfl ?_
    refine XS.aloadN X0.here hexec rfl (hb hbytes d1) rfl rfl ?_
    exact Steps.refl _)
  by_cases hxy : x = y
  · have c2 : Steps p.tables e below (s₁.setTop (entryFrame m #[.ref x, .ref y] 3)) (s₁.setTop (mkF m 6 #[.val (.ref x), .val (.ref y), .unset] [.int 1])) := c1.trans (by
      refine acmpNo X0.here hexec rfl (hb hbytes d2) rfl rfl rfl (by simp [acmp, hxy]) ?_
      refine iconstV X0.here hexec rfl 1 (hb hbytes d5) (by decide) ?_
      exact Steps.refl _)
    subst hxy
    have ec : cd = cd' := by
      obtain ⟨D, fd, a1, a2, a3⟩ := hx.2.2.1
      obtain ⟨D', fd', b1, b2, b3⟩ := hy.2.2.1
      cases a1.symm.trans b1
      obtain ⟨q1, q2, q3, q4⟩ := a2.1
      obtain ⟨r1, r2, r3, r4⟩ := b2.1
      cases q4.symm.trans r4
      cases a3.symm.trans b3; rfl
    have et : t = t' := by
      obtain ⟨D, fd, a1, a2, a3⟩ := hx.2.1
      obtain ⟨D', fd', b1, b2, b3⟩ := hy.2.1
      cases a1.symm.trans b1
      obtain ⟨q1, q2, q3, q4⟩ := a2.1
      obtain ⟨r1, r2, r3, r4⟩ := b2.1
      cases q4.symm.trans r4
      cases a3.symm.trans b3; rfl
    subst ec et
    have ev : V = V' := by cases hx.2.2.2.1.1.symm.trans hy.2.2.2.1.1; rfl
    subst ev
    have hs : SameT n f k g := (Cod.eqv hx.2.2.2.2.1 hy.2.2.2.2.1 hx.2.2.2.2.2 hy.2.2.2.2.2).mp ⟨rfl, fun _ _ => rfl⟩
    exact ⟨s₁, some (.int 1), _, _, _, X0, rfl, rfl, rfl, (fun h => by cases h), ⟨1, rfl, hh0, Or.inl ⟨rfl, hs⟩⟩, fun fs hl => c2.trans (X0.ireturnOut hexec hret rfl (Or.inr (Or.inl rfl)) (hb hbytes d6) hl)⟩
  · have c2 : Steps p.tables e below (s₁.setTop (entryFrame m #[.ref x, .ref y] 3)) (s₁.setTop (mkF m 8 #[.val (.ref x), .val (.ref y), .unset] [.ref y])) := c1.trans (by
      refine acmpYes X0.here hexec rfl (pc0 := 2) rfl (hb hbytes d2) rfl rfl rfl (by simp [acmp, hxy]) (by decide) rfl ?_
      refine XS.aloadN X0.here hexec rfl (hb hbytes d7) rfl rfl ?_
      exact Steps.refl _)
    obtain ⟨T3, X3, q3, st3⟩ := cinst X0 hexec hown (wk W (.classLink "java/lang/String" 10 "java/lang/String")) (hy.mv X0.warmed.alike hh0).1 (g := (mkF m 8 #[.val (.ref x), .val (.ref y), .unset] [.ref y])) rfl (rest := []) rfl (hb hbytes d8)
    have hh3 := q3.trans hh0
    have c4 : Steps p.tables e below (s₁.setTop (entryFrame m #[.ref x, .ref y] 3)) (T3.setTop (mkF m 15 #[.val (.ref x), .val (.ref y), .unset] [.ref y])) := (c2.trans (st3 _ (Steps.refl _))).trans (by
      refine XS.ifNo X3.here hexec rfl (hb hbytes d11) rfl (i0_eq_f (by decide)) ?_
      refine XS.aloadN X3.here hexec rfl (hb hbytes d14) rfl rfl ?_
      exact Steps.refl _)
    obtain ⟨T5, X5, q5, st5⟩ := cself X3 hexec hown (wk W (.classLink "java/lang/String" 10 "java/lang/String")) (hy.mv X3.warmed.alike hh3).1 (g := (mkF m 15 #[.val (.ref x), .val (.ref y), .unset] [.ref y])) rfl (rest := []) rfl (hb hbytes d15)
    have hh5 := q5.trans hh3
    have c6 : Steps p.tables e below (s₁.setTop (entryFrame m #[.ref x, .ref y] 3)) (T5.setTop (mkF m 19 #[.val (.ref x), .val (.ref y), .val (.ref y)] [])) := (c4.trans (st5 _ (Steps.refl _))).trans (by
      refine XS.astoreN X5.here hexec rfl (hb hbytes d18) rfl rfl rfl ?_
      exact Steps.refl _)
    obtain ⟨T7, X7, q7, st7⟩ := X5.sget hexec hown (wk W (.fieldLink "java/lang/String" 38 "java/lang/String" "COMPACT_STRINGS" "Z")) s1 (fun _ _ h => by rw [hh5]; exact h) (g := (mkF m 19 #[.val (.ref x), .val (.ref y), .val (.ref y)] [])) rfl (hb hbytes d19)
    have hh7 := q7.trans hh5
    have c8 : Steps p.tables e below (s₁.setTop (entryFrame m #[.ref x, .ref y] 3)) (T7.setTop (mkF m 26 #[.val (.ref x), .val (.ref y), .val (.ref y)] [.ref x])) := (c6.trans (st7 _ (Steps.refl _))).trans (by
      refine XS.ifNo X7.here hexec rfl (hb hbytes d22) rfl (i0_eq_f hz) ?_
      refine XS.aloadN X7.here hexec rfl (hb hbytes d25) rfl rfl ?_
      exact Steps.refl _)
    obtain ⟨T9, X9, q9, st9⟩ := X7.hget hexec hown (wk W (.fieldLink "java/lang/String" 15 "java/lang/String" "coder" "B")) (hx.mv X7.warmed.alike hh7).2.2.1 (g := (mkF m 26 #[.val (.ref x), .val (.ref y), .val (.ref y)] [.ref x])) rfl (rest := []) rfl (hb hbytes d26)
    have hh9 := q9.trans hh7
    have c10 : Steps p.tables e below (s₁.setTop (entryFrame m #[.ref x, .ref y] 3)) (T9.setTop (mkF m 30 #[.val (.ref x), .val (.ref y), .val (.ref y)] [.ref y, .int cd])) := (c8.trans (st9 _ (Steps.refl _))).trans (by
      refine XS.aloadN X9.here hexec rfl (hb hbytes d29) rfl rfl ?_
      exact Steps.refl _)
    obtain ⟨T11, X11, q11, st11⟩ := X9.hget hexec hown (wk W (.fieldLink "java/lang/String" 15 "java/lang/String" "coder" "B")) (hy.mv X9.warmed.alike hh9).2.2.1 (g := (mkF m 30 #[.val (.ref x), .val (.ref y), .val (.ref y)] [.ref y, .int cd])) rfl (rest := [.int cd]) rfl (hb hbytes d30)
    have hh11 := q11.trans hh9
    have c12 : Steps p.tables e below (s₁.setTop (entryFrame m #[.ref x, .ref y] 3)) (T11.setTop (mkF m 33 #[.val (.ref x), .val (.ref y), .val (.ref y)] [.int cd', .int cd])) := c10.trans (st11 _ (Steps.refl _))
    by_cases hcd : cd = cd'
    · subst hcd
      have c13 : Steps p.tables e below (s₁.setTop (entryFrame m #[.ref x, .ref y] 3)) (T11.setTop (mkF m 37 #[.val (.ref x), .val (.ref y), .val (.ref y)] [.ref x])) := c12.trans (by
        refine XS.icmpNo X11.here hexec rfl (hb hbytes d33) rfl (ii_ne_f rfl) ?_
        refine XS.aloadN X11.here hexec rfl (hb hbytes d36) rfl rfl ?_
        exact Steps.refl _)
      obtain ⟨T14, X14, q14, st14⟩ := X11.hget hexec hown (wk W (.fieldLink "java/lang/String" 9 "java/lang/String" "value" "[B")) (hx.mv X11.warmed.alike hh11).2.1 (g := (mkF m 37 #[.val (.ref x), .val (.ref y), .val (.ref y)] [.ref x])) rfl (rest := []) rfl (hb hbytes d37)
      have hh14 := q14.trans hh11
      have c15 : Steps p.tables e below (s₁.setTop (entryFrame m #[.ref x, .ref y] 3)) (T14.setTop (mkF m 41 #[.val (.ref x), .val (.ref y), .val (.ref y)] [.ref y, .ref t])) := (c13.trans (st14 _ (Steps.refl _))).trans (by
        refine XS.aloadN X14.here hexec rfl (hb hbytes d40) rfl rfl ?_
        exact Steps.refl _)
      obtain ⟨T16, X16, q16, st16⟩ := X14.hget hexec hown (wk W (.fieldLink "java/lang/String" 9 "java/lang/String" "value" "[B")) (hy.mv X14.warmed.alike hh14).2.1 (g := (mkF m 41 #[.val (.ref x), .val (.ref y), .val (.ref y)] [.ref y, .ref t])) rfl (rest := [.ref t]) rfl (hb hbytes d41)
      have hh16 := q16.trans hh14
      have c17 : Steps p.tables e below (s₁.setTop (entryFrame m #[.ref x, .ref y] 3)) (T16.setTop (mkF m 44 #[.val (.ref x), .val (.ref y), .val (.ref y)] [.ref t', .ref t])) := c15.trans (st16 _ (Steps.refl _))
      obtain ⟨v18, T18, X18, E18, g18⟩ := X16.callS hexec (LEq.law l t V t' V') hown (wks W (staticW "java/lang/String" 541 LEq.yN)) (wk W LEq.tab) (W := 0) (Nat.le_of_ble_eq_true rfl) (Nat.le_of_ble_eq_true rfl) (Nat.le_refl _) (Nat.le_refl _) (g := (mkF m 44 #[.val (.ref x), .val (.ref y), .val (.ref y)] [.ref t', .ref t])) rfl (by rw [hml]; rfl) c17 (argsL := [.ref t, .ref t']) (rest := []) rfl rfl (by show 2 * 0 + 0 ≤ _; decide) (hb hbytes d44) (⟨rfl, hx.2.2.2.1.mv X16.warmed.alike hh16, hx.2.2.2.2.1.ty, hy.2.2.2.1.mv X16.warmed.alike hh16, hy.2.2.2.2.1.ty⟩)
      obtain ⟨v, rfl, q18, hv⟩ := E18
      have iff := Cod.eqv hx.2.2.2.2.1 hy.2.2.2.2.1 hx.2.2.2.2.2 hy.2.2.2.2.2
      rcases hv with ⟨rfl, he⟩ | ⟨rfl, he⟩
      · have c19 : Steps p.tables e below (s₁.setTop (entryFrame m #[.ref x, .ref y] 3)) (T18.setTop (mkF m 55 #[.val (.ref x), .val (.ref y), .val (.ref y)] [.int 1])) := Steps.trans g18 (by
          refine XS.ifNo X18.here hexec rfl (hb hbytes d47) rfl (i0_eq_f (by decide)) ?_
          refine iconstV X18.here hexec rfl 1 (hb hbytes d50) (by decide) ?_
          refine XS.goto X18.here hexec rfl (pc0 := 51) rfl (hb hbytes d51) (by decide) rfl ?_
          exact Steps.refl _)
        exact ⟨T18, some (.int 1), _, _, _, X18, rfl, rfl, rfl, (fun h => by cases h), ⟨1, rfl, q18.trans hh16, Or.inl ⟨rfl, iff.mp he⟩⟩, fun fs hl => c19.trans (X18.ireturnOut hexec hret rfl (Or.inr (Or.inl rfl)) (hb hbytes d55) hl)⟩
      · have c19 : Steps p.tables e below (s₁.setTop (entryFrame m #[.ref x, .ref y] 3)) (T18.setTop (mkF m 55 #[.val (.ref x), .val (.ref y), .val (.ref y)] [.int 0])) := Steps.trans g18 (by
          refine XS.ifYes X18.here hexec rfl (pc0 := 47) rfl (hb hbytes d47) rfl (i0_eq_t rfl) (by decide) rfl ?_
          refine iconstV X18.here hexec rfl 0 (hb hbytes d54) (by decide) ?_
          exact Steps.refl _)
        exact ⟨T18, some (.int 0), _, _, _, X18, rfl, rfl, rfl, (fun h => by cases h), ⟨0, rfl, q18.trans hh16, Or.inr ⟨rfl, fun q => he (iff.mpr q)⟩⟩, fun fs hl => c19.trans (X18.ireturnOut hexec hret rfl (Or.inr (Or.inl rfl)) (hb hbytes d55) hl)⟩
    · have c13 : Steps p.tables e below (s₁.setTop (entryFrame m #[.ref x, .ref y] 3)) (T11.setTop (mkF m 55 #[.val (.ref x), .val (.ref y), .val (.ref y)] [.int 0])) := c12.trans (by
        refine XS.icmpYes X11.here hexec rfl (pc0 := 33) rfl (hb hbytes d33) rfl (ii_ne_t hcd) (by decide) rfl ?_
        refine iconstV X11.here hexec rfl 0 (hb hbytes d54) (by decide) ?_
        exact Steps.refl _)
      exact ⟨T11, some (.int 0), _, _, _, X11, rfl, rfl, rfl, (fun h => by cases h), ⟨0, rfl, hh11, Or.inr ⟨rfl, Cod.dif hx.2.2.2.2.1 hy.2.2.2.2.1 hcd⟩⟩, fun fs hl => c13.trans (X11.ireturnOut hexec hret rfl (Or.inr (Or.inl rfl)) (hb hbytes d55) hl)⟩
theorem pays {l : Launch} {R : Room} {p : Program} {e : Env} {below : List Frame} {s : State} {sargs : Array Value} {len W : Nat} (x t : Addr) (V : Cell) (cd : Int32) (n : Nat) (f : Nat → Int32) (y t' : Addr) (V' : Cell) (cd' : Int32) (k : Nat) (g : Nat → Int32) (z : Int32) (htab : tab.before sargs s = true) (hfr : 2 ≤ R.frames) (hlo : W + 28 ≤ R.locals) :
    Back l R p e below s sargs yN len W (fun A₁ a₁ => A₁.cells + 0 ≤ R.cells ∧ A₁.slots + 0 ≤ R.slots ∧ P x t V cd n f y t' V' cd' k g z a₁ A₁.U) (fun A₁ _ v₁ B₁ => Says01 (SameT n f k g) v₁ A₁.U B₁.U ∧ B₁.locs = A₁.locs ++ [] ∧ B₁.cells = A₁.cells + 0 ∧ B₁.slots = A₁.slots + 0) :=
  (law l x t V cd n f y t' V' cd' k g z).pays htab hfr (by omega)
end SEq
end StrChars
namespace StrChars.Road
open Jvm Sem ClassFile Op Lib Jvm.Stand Jvm.Free Jvm.Free.XT
open Jvm.Lib.Cold (StaticIs)
/-- the words of String.equals(Object) -/
abbrev wordsEq : List Jvm.Cond := [.code SEq.yN SEq.yB 3 (some .boolean), .initialized ST, .classLink ST 10 ST, .fieldLink ST 38 ST "COMPACT_STRINGS" "Z", .fieldLink ST 15 ST "coder" "B", .fieldLink ST 9 ST "value" "[B", .methodLink ST 541 LEq.yN, .static LEq.yN, .code LEq.yN LEq.yB 3 (some .boolean), .initialized "java/lang/StringLatin1"]
theorem tabEq_of {a : Array Value} {s : State} (h : ∀ w ∈ wordsEq, w.before a s = true) : SEq.tab.before a s = true := by
  have hl : LEq.tab.before a s = true := unparts (wk h (.code LEq.yN LEq.yB 3 (some .boolean))) (wks h (.initialized LEq.yN.cls :: LEq.site))
  have q := consq hl h
  exact unparts (wk q (.code SEq.yN SEq.yB 3 (some .boolean))) (wks q (.initialized SEq.yN.cls :: SEq.site))
theorem movedEq {Z s : State} {a0 args : Array Value} (hZ : Z.Warmed39 s.vm) (hw : ∀ d ∈ wordsEq, d.before a0 Z = true) : ∀ d ∈ wordsEq, d.before args s = true := fun d hd => by
  have t : ∀ d ∈ wordsEq, (d.onTables && d.keepsFace) = true := by decide +kernel
  exact RoadKit.mv hZ (hw d hd) (t d hd)
/-- the road's facts of a String, as the laws ask it -/
theorem txt_of {Z U : State} {a0 : Array Value} {kI : Nat} (wi : (Jvm.Cond.instantiable ST kI).before a0 Z = true) (al : Z.vm.Alike U.vm) {x t : Addr} {kb : ClassId} {cs : List Int32} {cd N2 : Int32} {vs : List Value} (E : RoadKit.Exa Z U.heap x ST) (V : RoadKit.Fld Z U.heap x ST "value" "[B" (.ref t)) (C : RoadKit.Fld Z U.heap x ST "coder" "B" (.int cd)) (K : RoadKit.Arv Z U.heap t kb .byte N2 vs (.int 0)) (hc : CodA cs cd N2 vs) (hb : ∀ c ∈ cs, ¬ c < 0 ∧ ¬ (65535 : Int32) < c) (l2 : cs.length ≤ 4000) :
    ∃ A, Txt x t A cd cs.length (fun j => cs.getD j 0) U := by
  obtain ⟨A, K1, K2, K3, K4, K5, K6⟩ := K
  have hcod := hc.cod (by omega) K3 K5
  obtain ⟨D, fV, fC, hB, F1, F2, g1, g2, -, -⟩ := strObj wi al E V C
  exact ⟨A, ⟨_, hB.2.2.1, D, hB.1, rfl, by cases q : D.vm <;> first | rfl | exact absurd q (hB.2.1.2 _)⟩, Has.of hB F1 g1, Has.of hB F2 g2, ⟨K1.1, State.isArrayOf_alike al K1.2.1, K1.2.2, by rcases hcod with ⟨-, q, -⟩ | ⟨-, q, -⟩ <;> omega⟩, hcod, fun j hj => by
    have e : cs.getD j 0 = cs[j] := by simp [List.getD_eq_getElem?_getD, hj]
    show ¬ cs.getD j 0 < 0 ∧ ¬ 65535 < cs.getD j 0
    rw [e]; exact hb _ (List.getElem_mem _)⟩
theorem same_list (cs ds : List Int32) : SameT cs.length (fun j => cs.getD j 0) ds.length (fun j => ds.getD j 0) ↔ cs = ds := by
  constructor
  · rintro ⟨e, q⟩
    refine List.ext_getElem e fun j h1 h2 => ?_
    have := q j h1
    simpa [List.getD_eq_getElem?_getD, h1, h2] using this
  · rintro rfl
    exact ⟨rfl, fun _ _ => rfl⟩
/-- **equals(Object) OF TWO SUCH STRINGS**: 1 just where the chars are the same -/
theorem eqW {p : Program} {l : Launch} {e : Env} {R : Room} {s : State} {args : Array Value} {below : List Frame} {len W : Nat} {Z : State} {a0 : Array Value} {h : Heap} (hZ : Z.Warmed39 s.vm) (hw : ∀ d ∈ wordsEq, d.before a0 Z = true) {kI : Nat} (wi : (Jvm.Cond.instantiable ST kI).before a0 Z = true)
    {x t : Addr} {kb : ClassId} {cs : List Int32} {cd N2 : Int32} {vs : List Value} (E : RoadKit.Exa Z h x ST) (V : RoadKit.Fld Z h x ST "value" "[B" (.ref t)) (C : RoadKit.Fld Z h x ST "coder" "B" (.int cd)) (K : RoadKit.Arv Z h t kb .byte N2 vs (.int 0)) (hc : CodA cs cd N2 vs) (hb : ∀ c ∈ cs, ¬ c < 0 ∧ ¬ (65535 : Int32) < c) (l2 : cs.length ≤ 4000)
    {y t' : Addr} {kb' : ClassId} {ds : List Int32} {cd' N2' : Int32} {vs' : List Value} (E' : RoadKit.Exa Z h y ST) (V' : RoadKit.Fld Z h y ST "value" "[B" (.ref t')) (C' : RoadKit.Fld Z h y ST "coder" "B" (.int cd')) (K' : RoadKit.Arv Z h t' kb' .byte N2' vs' (.int 0)) (hc' : CodA ds cd' N2' vs') (hb' : ∀ c ∈ ds, ¬ c < 0 ∧ ¬ (65535 : Int32) < c) (l2' : ds.length ≤ 4000)
    {z : Int32} (S : RoadKit.Sta Z h ST "COMPACT_STRINGS" "Z" (.int z)) (hz : ¬ z = 0) (hfr : 2 ≤ R.frames) (hlo : W + 28 ≤ R.locals) :
    Back l R p e below s args (⟨"java/lang/String", "equals", "(Ljava/lang/Object;)Z"⟩ : MethodName) len W (fun P a => a = #[.ref x, .ref y] ∧ P.U.heap = h ∧ P.cells + 0 ≤ R.cells ∧ P.slots + 0 ≤ R.slots)
      (fun P _ v B => ∃ L, (((v = some (.int 1) ∧ cs = ds) ∨ (v = some (.int 0) ∧ ¬ cs = ds)) ∧ L = [] ∧ B.U.heap = h) ∧ B.locs = P.locs ++ L ∧ B.cells = P.cells + 0 ∧ B.slots = P.slots + 0) := by
  intro m meth c P g ig mk a X hg hsize hdg hW hn hp'
  obtain ⟨rfl, rfl, r1, r2⟩ := hp'
  have al : Z.vm.Alike P.U.vm := hZ.alike.trans X.warmed.alike
  obtain ⟨A, hx⟩ := txt_of wi al E V C K hc hb l2
  obtain ⟨A', hy⟩ := txt_of wi al E' V' C' K' hc' hb' l2'
  obtain ⟨v, B, X', ⟨⟨w, hv, hh, hq⟩, hl, hk, hs⟩, st⟩ := SEq.pays x t A cd cs.length (fun j => cs.getD j 0) y t' A' cd' ds.length (fun j => ds.getD j 0) z (tabEq_of (movedEq hZ hw)) hfr hlo m meth c P g ig mk _ X hg hsize hdg hW hn ⟨r1, r2, rfl, hx, hy, sta_is al S, hz⟩
  refine ⟨v, B, X', ⟨[], ⟨?_, rfl, hh⟩, hl, hk, hs⟩, st⟩
  rcases hq with ⟨rfl, q⟩ | ⟨rfl, q⟩
  · exact Or.inl ⟨hv, (same_list cs ds).mp q⟩
  · exact Or.inr ⟨hv, fun e => q ((same_list cs ds).mpr e)⟩
end StrChars.Road
end Jvm.Pilot.@@N@@
namespace Jvm.Pilot.@@N@@
namespace Own
open Jvm Jvm.ClassFile Sem Op Lib Jvm.Free Jvm.Stand Jvm.LawKit Jvm.RoadKit
/-- what stays through a whole case: the launch, the start, its arguments, the assumed constants, the start heap's size -/
def Gl : Type := Launch × State × Array Value × List (String × Nat) × Nat
def Gl.l (G : Gl) : Launch := G.1
def Gl.Z (G : Gl) : State := G.2.1
def Gl.a0 (G : Gl) : Array Value := G.2.2.1
def Gl.EL (G : Gl) : List (String × Nat) := G.2.2.2.1
def Gl.n0 (G : Gl) : Nat := G.2.2.2.2
/-- one run of one body -/
def Rn : Type := Program × Env × State × MethodId × Array Value × List Frame × Method × Code
def Rn.p (X : Rn) : Program := X.1
def Rn.e (X : Rn) : Env := X.2.1
def Rn.s (X : Rn) : State := X.2.2.1
def Rn.m (X : Rn) : MethodId := X.2.2.2.1
def Rn.args (X : Rn) : Array Value := X.2.2.2.2.1
def Rn.below (X : Rn) : List Frame := X.2.2.2.2.2.1
def Rn.meth (X : Rn) : Method := X.2.2.2.2.2.2.1
def Rn.c (X : Rn) : Code := X.2.2.2.2.2.2.2
/-- one body: its name, bytes, locals, what it returns, its room -/
def Bo : Type := MethodName × ByteArray × Nat × Option FieldType × Room
abbrev Bo.y (M : Bo) : MethodName := M.1
abbrev Bo.bytes (M : Bo) : ByteArray := M.2.1
abbrev Bo.maxL (M : Bo) : Nat := M.2.2.1
abbrev Bo.ret (M : Bo) : Option FieldType := M.2.2.2.1
abbrev Bo.R (M : Bo) : Room := M.2.2.2.2
/-- what is known of a run's body throughout -/
def Fixd (G : Gl) (X : Rn) (M : Bo) : Prop := X.p.tables.exec = Jvm.exec ∧ X.c.code = M.bytes ∧ X.c.maxLocals = M.maxL ∧ X.meth.sig.returnType = M.ret ∧ X.meth.locks = false ∧ X.meth.name = M.y.name ∧ EW G.Z G.a0 G.EL
/-- WHERE A WALK STANDS: the tables of its base vm, the state T, its heap h, at most C new cells of S slots -/
def Here (G : Gl) (X : Rn) (M : Bo) (vm : Vm) (T : State) (h : Heap) (C S : Nat) : Prop :=
  Fixd G X M ∧ ∃ (k0 : Nat) (locs : List Loc) (cells slots : Nat), Stand X.p G.l X.e M.R (X.s.setVm vm) X.m X.args X.below X.meth X.c T locs cells slots ∧ T.heap = h ∧ X.s.Since vm k0 ∧ k0 ≤ h.size ∧ G.Z.Warmed39 vm ∧ vm.findClass M.y.cls = some X.m.cls ∧
    CHr G.Z G.EL X.s.vm X.s.heap vm h ∧ Fr G.n0 locs ∧ Old G.Z G.n0 h ∧ cells ≤ C ∧ slots ≤ S
/-- THE GOAL: from this frame the body comes to its end, and there Q holds -/
def Go (G : Gl) (X : Rn) (M : Bo) (Q : Option Value → Heap → Prop) (T : State) (pc : Nat) (Ls : Array Slot) (st : List Value) : Prop :=
  ∃ s₂ o, Steps X.p.tables X.e X.below (T.setTop (mkF X.m pc Ls st)) s₂ ∧ s₂.status = .running ∧ Ended s₂ X.below o ∧ ∃ v L, o = .returned v ∧ (Q v s₂.heap ∧ Fr G.n0 L ∧ Old G.Z G.n0 s₂.heap) ∧ CHr G.Z G.EL X.s.vm X.s.heap s₂.vm s₂.heap ∧ ReturnedEndW X.s o s₂ L M.R.cells M.R.slots
/-- A BODY's CONTRACT: called with as' in the heap h (the places sf not booked by a constant), it returns and Q holds -/
def Con (G : Gl) (ws : List Jvm.Cond) (M : Bo) (as' : Array Value) (h : Heap) (sf : List Addr) (Q : Option Value → Heap → Prop) : Prop :=
  MetFree G.l M.y (head1 (Jvm.Cond.code M.y M.bytes M.maxL M.ret :: ws) M.R) (fun a U => a = as' ∧ G.Z.Warmed39 U.vm ∧ U.heap = h ∧ CHv G.Z G.EL U.vm h ∧ ∀ x ∈ sf, Safe G.Z G.EL U.vm h x) (fun _ _ _ _ _ => True)
    (fun _ U o U' => ∃ v L, o = .returned v ∧ (Q v U'.heap ∧ Fr G.n0 L ∧ Old G.Z G.n0 U'.heap) ∧ CHr G.Z G.EL U.vm U.heap U'.vm U'.heap ∧ ReturnedEndW U o U' L M.R.cells M.R.slots)
/-- A CALL THAT IS PAID -/
def Pay (G : Gl) (X : Rn) (M : Bo) (vm : Vm) (h : Heap) (y : MethodName) (len W : Nat) (as' : Array Value) (kc ks : Nat) (Q : Option Value → Heap → Prop) : Prop :=
  BackS G.l M.R X.p X.e X.below (X.s.setVm vm) X.args y len W (fun A a => a = as' ∧ A.U.heap = h ∧ A.cells + kc ≤ M.R.cells ∧ A.slots + ks ≤ M.R.slots)
    (fun A _ v B => ∃ L, (Q v B.U.heap ∧ Fr G.n0 L ∧ Old G.Z G.n0 B.U.heap) ∧ B.locs = A.locs ++ L ∧ B.cells ≤ A.cells + kc ∧ B.slots ≤ A.slots + ks ∧ CHr G.Z G.EL vm h B.U.vm B.U.heap)
section Kit
variable {G : Gl} {X : Rn} {M : Bo} {vm : Vm} {T : State} {h : Heap} {C S : Nat} {Q : Option Value → Heap → Prop} {pc pc' : Nat} {Ls Ls' : Array Slot} {st : List Value}
theorem Go.stp {T' : State} {st' : List Value} (hs : ∀ t, Steps X.p.tables X.e X.below (T'.setTop (mkF X.m pc' Ls' st')) t → Steps X.p.tables X.e X.below (T.setTop (mkF X.m pc Ls st)) t) (k : Go G X M Q T' pc' Ls' st') : Go G X M Q T pc Ls st := by
  obtain ⟨s₂, o, h1, r⟩ := k
  exact ⟨s₂, o, hs _ h1, r⟩
theorem Here.x (W : Here G X M vm T h C S) : X.p.tables.exec = Jvm.exec := W.1.1
theorem Here.d (W : Here G X M vm T h C S) {pc : Nat} {r : Except ClassFile.DecodeError (ClassFile.Instr × Nat)} (h2 : ClassFile.decode M.bytes pc = r) : ClassFile.decode X.c.code pc = r := hb W.1.2.1 h2
theorem Here.at (W : Here G X M vm T h C S) : Jvm.At T X.m X.c X.below := by obtain ⟨-, _, _, _, _, X1, -⟩ := W; exact X1.here
theorem Here.old (W : Here G X M vm T h C S) : Old G.Z G.n0 h := by obtain ⟨-, _, _, _, _, -, -, -, -, -, -, -, -, o, -⟩ := W; exact o
theorem Here.ch (W : Here G X M vm T h C S) : CHv G.Z G.EL vm h := by obtain ⟨-, _, _, _, _, -, -, -, -, -, -, q, -⟩ := W; exact q.1
theorem Here.wz (W : Here G X M vm T h C S) : G.Z.Warmed39 vm := by obtain ⟨-, _, _, _, _, -, -, -, -, q, -⟩ := W; exact q
theorem Here.le (W : Here G X M vm T h C S) {C' S' : Nat} (hc : C ≤ C') (hs : S ≤ S') : Here G X M vm T h C' S' := by
  obtain ⟨F, k0, L, c, s, h1, h2, h3, h4, h5, h6, h7, h8, h9, h10, h11⟩ := W
  exact ⟨F, k0, L, c, s, h1, h2, h3, h4, h5, h6, h7, h8, h9, Nat.le_trans h10 hc, Nat.le_trans h11 hs⟩
theorem Here.n0 (W : Here G X M vm T h C S) : G.n0 ≤ h.size := W.old.1 ▸ W.old.2.1
/-- the start heap's fact, now -/
theorem Here.sta (W : Here G X M vm T h C S) {c n d : String} {v : Value} (F : Sta G.Z G.Z.heap c n d v) : Sta G.Z h c n d v := F.ext W.old.2
/-! ### plain steps -/
theorem iconst (W : Here G X M vm T h C S) {i : Int} (hd : decode M.bytes pc = .ok (.iconst i, 1)) (pc' : Nat) (hp : pc + 1 = pc') (v : Int32) (hv : Int32.ofInt i = v) (k : Go G X M Q T pc' Ls (.int v :: st)) : Go G X M Q T pc Ls st := by
  subst hp hv; exact Go.stp (fun t r => XS.iconst W.at W.x rfl (W.d hd) r) k
theorem bipush (W : Here G X M vm T h C S) {i : Int} (hd : decode M.bytes pc = .ok (.bipush i, 2)) (pc' : Nat) (hp : pc + 2 = pc') (v : Int32) (hv : (Int8.ofInt i).toInt32 = v) (k : Go G X M Q T pc' Ls (.int v :: st)) : Go G X M Q T pc Ls st := by
  subst hp hv; exact Go.stp (fun t r => XS.bipush W.at W.x rfl (W.d hd) r) k
theorem sipush (W : Here G X M vm T h C S) {i : Int} (hd : decode M.bytes pc = .ok (.sipush i, 3)) (pc' : Nat) (hp : pc + 3 = pc') (v : Int32) (hv : (Int16.ofInt i).toInt32 = v) (k : Go G X M Q T pc' Ls (.int v :: st)) : Go G X M Q T pc Ls st := by
  subst hp hv; exact Go.stp (fun t r => XS.sipush W.at W.x rfl (W.d hd) r) k
theorem aconstNull (W : Here G X M vm T h C S) (hd : decode M.bytes pc = .ok (.aconst_null, 1)) (pc' : Nat) (hp : pc + 1 = pc') (k : Go G X M Q T pc' Ls (.null :: st)) : Go G X M Q T pc Ls st := by
  subst hp; exact Go.stp (fun t r => XS.aconstNull W.at W.x rfl (W.d hd) r) k
theorem iloadN (W : Here G X M vm T h C S) {j : Fin 4} (hd : decode M.bytes pc = .ok (.iload_n j, 1)) (pc' : Nat) (hp : pc + 1 = pc') (v : Int32) (hl : Ls[j.val]? = some (.val (.int v))) (k : Go G X M Q T pc' Ls (.int v :: st)) : Go G X M Q T pc Ls st := by
  subst hp; exact Go.stp (fun t r => XS.iloadN W.at W.x rfl (W.d hd) hl r) k
theorem iload (W : Here G X M vm T h C S) {j : Nat} (hd : decode M.bytes pc = .ok (.iload j, 2)) (pc' : Nat) (hp : pc + 2 = pc') (v : Int32) (hl : Ls[j]? = some (.val (.int v))) (k : Go G X M Q T pc' Ls (.int v :: st)) : Go G X M Q T pc Ls st := by
  subst hp; exact Go.stp (fun t r => XS.iload W.at W.x rfl (W.d hd) hl r) k
theorem aloadN (W : Here G X M vm T h C S) {j : Fin 4} (hd : decode M.bytes pc = .ok (.aload_n j, 1)) (pc' : Nat) (hp : pc + 1 = pc') (v : Value) (hl : Ls[j.val]? = some (.val v)) (hv : v.isRef = true) (k : Go G X M Q T pc' Ls (v :: st)) : Go G X M Q T pc Ls st := by
  subst hp; exact Go.stp (fun t r => XS.aloadN W.at W.x rfl (W.d hd) hl hv r) k
theorem aload (W : Here G X M vm T h C S) {j : Nat} (hd : decode M.bytes pc = .ok (.aload j, 2)) (pc' : Nat) (hp : pc + 2 = pc') (v : Value) (hl : Ls[j]? = some (.val v)) (hv : v.isRef = true) (k : Go G X M Q T pc' Ls (v :: st)) : Go G X M Q T pc Ls st := by
  subst hp; exact Go.stp (fun t r => XS.aload W.at W.x rfl (W.d hd) hl hv r) k
theorem istoreN (W : Here G X M vm T h C S) {j : Fin 4} {x : Int32} (hd : decode M.bytes pc = .ok (.istore_n j, 1)) (pc' : Nat) (hp : pc + 1 = pc') (Ls' : Array Slot) (hl : storeLocals Ls j.val (.int x) = some Ls') (k : Go G X M Q T pc' Ls' st) : Go G X M Q T pc Ls (.int x :: st) := by
  subst hp; exact Go.stp (fun t r => XS.istoreN W.at W.x rfl (W.d hd) rfl hl r) k
theorem istore (W : Here G X M vm T h C S) {j : Nat} {x : Int32} (hd : decode M.bytes pc = .ok (.istore j, 2)) (pc' : Nat) (hp : pc + 2 = pc') (Ls' : Array Slot) (hl : storeLocals Ls j (.int x) = some Ls') (k : Go G X M Q T pc' Ls' st) : Go G X M Q T pc Ls (.int x :: st) := by
  subst hp; exact Go.stp (fun t r => XS.istore W.at W.x rfl (W.d hd) rfl hl r) k
theorem astoreN (W : Here G X M vm T h C S) {j : Fin 4} {x : Value} (hd : decode M.bytes pc = .ok (.astore_n j, 1)) (pc' : Nat) (hp : pc + 1 = pc') (hv : x.isRef = true) (Ls' : Array Slot) (hl : storeLocals Ls j.val x = some Ls') (k : Go G X M Q T pc' Ls' st) : Go G X M Q T pc Ls (x :: st) := by
  subst hp; exact Go.stp (fun t r => XS.astoreN W.at W.x rfl (W.d hd) rfl hv hl r) k
theorem astore (W : Here G X M vm T h C S) {j : Nat} {x : Value} (hd : decode M.bytes pc = .ok (.astore j, 2)) (pc' : Nat) (hp : pc + 2 = pc') (hv : x.isRef = true) (Ls' : Array Slot) (hl : storeLocals Ls j x = some Ls') (k : Go G X M Q T pc' Ls' st) : Go G X M Q T pc Ls (x :: st) := by
  subst hp; exact Go.stp (fun t r => XS.astore W.at W.x rfl (W.d hd) rfl hv hl r) k
theorem iinc (W : Here G X M vm T h C S) {j : Nat} {cst : Int} {x : Int32} (hd : decode M.bytes pc = .ok (.iinc j cst, 3)) (pc' : Nat) (hp : pc + 3 = pc') (hl : Ls[j]? = some (.val (.int x))) (Ls' : Array Slot) (hl' : storeLocals Ls j (.int (x + Int32.ofInt cst)) = some Ls') (k : Go G X M Q T pc' Ls' st) : Go G X M Q T pc Ls st := by
  subst hp; exact Go.stp (fun t r => XS.iinc W.at W.x rfl (W.d hd) hl hl' r) k
theorem iadd (W : Here G X M vm T h C S) {x y : Int32} (hd : decode M.bytes pc = .ok (.iadd, 1)) (pc' : Nat) (hp : pc + 1 = pc') (k : Go G X M Q T pc' Ls (.int (x + y) :: st)) : Go G X M Q T pc Ls (.int y :: .int x :: st) := by
  subst hp; exact Go.stp (fun t r => XS.iadd W.at W.x rfl (W.d hd) rfl r) k
theorem isub (W : Here G X M vm T h C S) {x y : Int32} (hd : decode M.bytes pc = .ok (.isub, 1)) (pc' : Nat) (hp : pc + 1 = pc') (k : Go G X M Q T pc' Ls (.int (x - y) :: st)) : Go G X M Q T pc Ls (.int y :: .int x :: st) := by
  subst hp; exact Go.stp (fun t r => XS.isub W.at W.x rfl (W.d hd) rfl r) k
theorem iand (W : Here G X M vm T h C S) {x y : Int32} (hd : decode M.bytes pc = .ok (.iand, 1)) (pc' : Nat) (hp : pc + 1 = pc') (k : Go G X M Q T pc' Ls (.int (x &&& y) :: st)) : Go G X M Q T pc Ls (.int y :: .int x :: st) := by
  subst hp; exact Go.stp (fun t r => XS.iand W.at W.x rfl (W.d hd) rfl r) k
theorem ixor (W : Here G X M vm T h C S) {x y : Int32} (hd : decode M.bytes pc = .ok (.ixor, 1)) (pc' : Nat) (hp : pc + 1 = pc') (k : Go G X M Q T pc' Ls (.int (x ^^^ y) :: st)) : Go G X M Q T pc Ls (.int y :: .int x :: st) := by
  subst hp; exact Go.stp (fun t r => XS.ixor W.at W.x rfl (W.d hd) rfl r) k
theorem iushr (W : Here G X M vm T h C S) {x y : Int32} (hd : decode M.bytes pc = .ok (.iushr, 1)) (pc' : Nat) (hp : pc + 1 = pc') (k : Go G X M Q T pc' Ls (.int ((x.toUInt32 >>> (y &&& 31).toUInt32).toInt32) :: st)) : Go G X M Q T pc Ls (.int y :: .int x :: st) := by
  subst hp; exact Go.stp (fun t r => XS.iushr W.at W.x rfl (W.d hd) rfl r) k
theorem ineg (W : Here G X M vm T h C S) {x : Int32} (hd : decode M.bytes pc = .ok (.ineg, 1)) (pc' : Nat) (hp : pc + 1 = pc') (k : Go G X M Q T pc' Ls (.int (-x) :: st)) : Go G X M Q T pc Ls (.int x :: st) := by
  subst hp; exact Go.stp (fun t r => XS.ineg W.at W.x rfl (W.d hd) rfl r) k
theorem i2c (W : Here G X M vm T h C S) {x : Int32} (hd : decode M.bytes pc = .ok (.i2c, 1)) (pc' : Nat) (hp : pc + 1 = pc') (k : Go G X M Q T pc' Ls (.int x.toUInt32.toUInt16.toUInt32.toInt32 :: st)) : Go G X M Q T pc Ls (.int x :: st) := by
  subst hp; exact Go.stp (fun t r => XS.i2c W.at W.x rfl (W.d hd) rfl r) k
theorem i2b (W : Here G X M vm T h C S) {x : Int32} (hd : decode M.bytes pc = .ok (.i2b, 1)) (pc' : Nat) (hp : pc + 1 = pc') (k : Go G X M Q T pc' Ls (.int x.toInt8.toInt32 :: st)) : Go G X M Q T pc Ls (.int x :: st) := by
  subst hp; exact Go.stp (fun t r => XS.i2b W.at W.x rfl (W.d hd) rfl r) k
theorem irem (W : Here G X M vm T h C S) {x y : Int32} (hd : decode M.bytes pc = .ok (.irem, 1)) (pc' : Nat) (hp : pc + 1 = pc') (hy : y ≠ 0) (k : Go G X M Q T pc' Ls (.int (x % y) :: st)) : Go G X M Q T pc Ls (.int y :: .int x :: st) := by
  subst hp
  obtain ⟨F, k0, L, c, s, X1, -⟩ := id W
  exact Go.stp (fun t r => iremM X1 W.x rfl (W.d hd) rfl hy r) k
theorem dup (W : Here G X M vm T h C S) {x : Value} (hd : decode M.bytes pc = .ok (.dup, 1)) (pc' : Nat) (hp : pc + 1 = pc') (hc : x.category = 1) (k : Go G X M Q T pc' Ls (x :: x :: st)) : Go G X M Q T pc Ls (x :: st) := by
  subst hp; exact Go.stp (fun t r => XS.dup W.at W.x rfl (W.d hd) rfl hc r) k
theorem pop (W : Here G X M vm T h C S) {x : Value} (hd : decode M.bytes pc = .ok (.pop, 1)) (pc' : Nat) (hp : pc + 1 = pc') (hc : x.category = 1) (k : Go G X M Q T pc' Ls st) : Go G X M Q T pc Ls (x :: st) := by
  subst hp; exact Go.stp (fun t r => XS.pop W.at W.x rfl (W.d hd) rfl hc r) k
theorem goto (W : Here G X M vm T h C S) {o : Int} (hd : decode M.bytes pc = .ok (.goto o, 3)) (pc' : Nat) (ho : 0 ≤ (pc : Int) + o) (hp : ((pc : Int) + o).toNat = pc') (k : Go G X M Q T pc' Ls st) : Go G X M Q T pc Ls st :=
  Go.stp (fun t r => XS.goto W.at W.x rfl (pc0 := pc) (pc' := pc') rfl (W.d hd) ho hp r) k
theorem ifYes (W : Here G X M vm T h C S) {cd : ClassFile.Cond} {x : Int32} {o : Int} (hd : decode M.bytes pc = .ok (.ifCond cd o, 3)) (pc' : Nat) (hc : ifCond.holds cd x = true) (ho : 0 ≤ (pc : Int) + o) (hp : ((pc : Int) + o).toNat = pc') (k : Go G X M Q T pc' Ls st) : Go G X M Q T pc Ls (.int x :: st) :=
  Go.stp (fun t r => XS.ifYes W.at W.x rfl (pc0 := pc) (pc' := pc') rfl (W.d hd) rfl hc ho hp r) k
theorem ifNo (W : Here G X M vm T h C S) {cd : ClassFile.Cond} {x : Int32} {o : Int} (hd : decode M.bytes pc = .ok (.ifCond cd o, 3)) (pc' : Nat) (hc : ifCond.holds cd x = false) (hp : pc + 3 = pc') (k : Go G X M Q T pc' Ls st) : Go G X M Q T pc Ls (.int x :: st) := by
  subst hp; exact Go.stp (fun t r => XS.ifNo W.at W.x rfl (W.d hd) rfl hc r) k
theorem icmpYes (W : Here G X M vm T h C S) {cd : ClassFile.Cond} {x y : Int32} {o : Int} (hd : decode M.bytes pc = .ok (.if_icmp cd o, 3)) (pc' : Nat) (hc : if_icmp.holds cd x y = true) (ho : 0 ≤ (pc : Int) + o) (hp : ((pc : Int) + o).toNat = pc') (k : Go G X M Q T pc' Ls st) : Go G X M Q T pc Ls (.int y :: .int x :: st) :=
  Go.stp (fun t r => XS.icmpYes W.at W.x rfl (pc0 := pc) (pc' := pc') rfl (W.d hd) rfl hc ho hp r) k
theorem icmpNo (W : Here G X M vm T h C S) {cd : ClassFile.Cond} {x y : Int32} {o : Int} (hd : decode M.bytes pc = .ok (.if_icmp cd o, 3)) (pc' : Nat) (hc : if_icmp.holds cd x y = false) (hp : pc + 3 = pc') (k : Go G X M Q T pc' Ls st) : Go G X M Q T pc Ls (.int y :: .int x :: st) := by
  subst hp; exact Go.stp (fun t r => XS.icmpNo W.at W.x rfl (W.d hd) rfl hc r) k
theorem ifnullYes (W : Here G X M vm T h C S) {o : Int} (hd : decode M.bytes pc = .ok (.ifnull o, 3)) (pc' : Nat) (ho : 0 ≤ (pc : Int) + o) (hp : ((pc : Int) + o).toNat = pc') (k : Go G X M Q T pc' Ls st) : Go G X M Q T pc Ls (.null :: st) :=
  Go.stp (fun t r => XS.ifnullYes W.at W.x rfl (pc0 := pc) (pc' := pc') rfl (W.d hd) rfl ho hp r) k
theorem ifnullNo (W : Here G X M vm T h C S) {o : Int} {b : Addr} (hd : decode M.bytes pc = .ok (.ifnull o, 3)) (pc' : Nat) (hp : pc + 3 = pc') (k : Go G X M Q T pc' Ls st) : Go G X M Q T pc Ls (.ref b :: st) := by
  subst hp; exact Go.stp (fun t r => XS.ifnullNo W.at W.x rfl (W.d hd) rfl r) k
theorem ifnonnullYes (W : Here G X M vm T h C S) {o : Int} {b : Addr} (hd : decode M.bytes pc = .ok (.ifnonnull o, 3)) (pc' : Nat) (ho : 0 ≤ (pc : Int) + o) (hp : ((pc : Int) + o).toNat = pc') (k : Go G X M Q T pc' Ls st) : Go G X M Q T pc Ls (.ref b :: st) :=
  Go.stp (fun t r => XT.nonnullYes W.at W.x rfl (pc0 := pc) (pc' := pc') rfl (W.d hd) rfl rfl (fun q => nomatch q) ho hp r) k
theorem ifnonnullNo (W : Here G X M vm T h C S) {o : Int} (hd : decode M.bytes pc = .ok (.ifnonnull o, 3)) (pc' : Nat) (hp : pc + 3 = pc') (k : Go G X M Q T pc' Ls st) : Go G X M Q T pc Ls (.null :: st) := by
  subst hp; exact Go.stp (fun t r => XT.nonnullNo W.at W.x rfl (W.d hd) rfl rfl r) k
theorem acmp (W : Here G X M vm T h C S) {cd : ACond} {x y : Value} {o : Int} (hd : decode M.bytes pc = .ok (.if_acmp cd o, 3)) (pc' : Nat) (h1 : x.isRef = true) (h2 : y.isRef = true) (same : Bool) (hs : decide (x = y) = same) (ho : 0 ≤ (pc : Int) + o) (hp : pc' = if acV cd same = true then ((pc : Int) + o).toNat else pc + 3) (k : Go G X M Q T pc' Ls st) : Go G X M Q T pc Ls (y :: x :: st) := by
  obtain ⟨F, k0, L, c, s, X1, -⟩ := id W
  exact Go.stp (fun t r => Jvm.RoadKit.acmp (g := mkF X.m pc Ls (y :: x :: st)) X1 W.x rfl h1 h2 (pc0 := pc) (pc' := pc') (same := same) rfl (W.d hd) rfl hs ho hp r) k
end Kit
end Own
end Jvm.Pilot.@@N@@
namespace Jvm.Pilot.@@N@@
namespace Own
open Jvm Jvm.ClassFile Sem Op Lib Jvm.Free Jvm.Stand Jvm.LawKit Jvm.RoadKit
section Kit2
variable {G : Gl} {X : Rn} {M : Bo} {vm : Vm} {T : State} {h : Heap} {C S : Nat} {Q : Option Value → Heap → Prop} {pc pc' : Nat} {Ls Ls' : Array Slot} {st : List Value}
theorem Ext.rfl' (h : Heap) : Ext h h := ⟨Nat.le_refl _, fun _ _ q => q⟩
theorem Ext.tr {h1 h2 h3 : Heap} (a : Ext h1 h2) (b : Ext h2 h3) : Ext h1 h3 := ⟨Nat.le_trans a.1 b.1, fun x c q => b.2 x c (a.2 x c q)⟩
theorem Ext.wr' {h1 h2 h3 : Heap} {a : Addr} {sl : Nat} {v : Value} (e : Ext h1 h2) (w : Wr h2 h3 a sl v) (ha : h1.size ≤ a) : Ext h1 h3 := ⟨Nat.le_trans e.1 (Keep.of_wr w).1, fun x c q => (Keep.of_wr w).2.1 x c (e.2 x c q) fun z => by
  cases List.mem_singleton.mp z; exact absurd (Array.getElem?_eq_some_iff.mp q).1 (Nat.not_lt.mpr ha)⟩
theorem Ext.kp {h1 h2 h3 : Heap} {ws : List Addr} (e : Ext h1 h2) (k : Keep h2 h3 ws) (ha : ∀ x ∈ ws, h1.size ≤ x) : Ext h1 h3 := ⟨Nat.le_trans e.1 k.1, fun x c q => k.2.1 x c (e.2 x c q) fun z => absurd (Array.getElem?_eq_some_iff.mp q).1 (Nat.not_lt.mpr (ha x z))⟩
theorem Ext.keep {h1 h2 : Heap} (e : Ext h1 h2) : Keep h1 h2 [] := ⟨e.1, fun x c q _ => e.2 x c q, fun x c q => ⟨c, e.2 x c q, rfl, rfl, rfl⟩⟩
/-! ### the end -/
theorem Go.retW (W : Here G X M vm T h C S) (hC : C ≤ M.R.cells) (hS : S ≤ M.R.slots) {v : Option Value} (hv : M.ret = none → v = none)
    (hst : ∀ fs, (∀ (f : JFrame) (acts : List Action), f.method = X.m → f.locked = none → f.entered = [] → (doReturn X.e (T.setTop f) acts v).1 = T.setFrames fs) → Steps X.p.tables X.e X.below (T.setTop (mkF X.m pc Ls st)) (T.setFrames fs)) (hQ : Q v h) : Go G X M Q T pc Ls st := by
  obtain ⟨⟨hx, hby, hml, hret, hlk, hnm, hEL⟩, k0, L, c, s, X1, e1, S1, hk, hZ, hown, hCH, N, O, c1, s1⟩ := W
  obtain ⟨fs, hr, hrun, hended, h1, h2, h3, h4⟩ := X1.leaveW S1 (by rw [e1]; exact hk) (v := v) (fun q => hv (hret.symm.trans q)) hlk
  refine ⟨_, _, hst fs hr, hrun, hended, v, L, rfl, ⟨?_, N, ?_⟩, ?_, h1, h2, h3, h4.mono (Nat.le_trans c1 hC) (Nat.le_trans s1 hS)⟩
  · show Q v T.heap
    rw [e1]; exact hQ
  · show Old G.Z G.n0 T.heap
    rw [e1]; exact O
  · show CHr G.Z G.EL X.s.vm X.s.heap T.vm T.heap
    rw [e1]; exact hCH.trans (CHv.at X1 hZ hEL hCH.1)
theorem retI (W : Here G X M vm T h C S) (hC : C ≤ M.R.cells) (hS : S ≤ M.R.slots) (hr : M.ret = some .int) (hd : decode M.bytes pc = .ok (.ireturn, 1)) {z : Int32} (hQ : Q (some (.int z)) h) : Go G X M Q T pc Ls (.int z :: st) := by
  obtain ⟨F, k0, L, c, s, X1, -⟩ := id W
  exact Go.retW W hC hS (fun q => by rw [hr] at q; cases q) (fun fs q => retOut X1 W.x (F.2.2.2.1.trans hr) rfl (Or.inl ⟨rfl, Or.inl rfl, z, rfl⟩) (W.d hd) q) hQ
theorem retB (W : Here G X M vm T h C S) (hC : C ≤ M.R.cells) (hS : S ≤ M.R.slots) (hr : M.ret = some .boolean) (hd : decode M.bytes pc = .ok (.ireturn, 1)) {z : Int32} (hz : narrow .boolean (.int z) = .int z) (hQ : Q (some (.int z)) h) : Go G X M Q T pc Ls (.int z :: st) := by
  obtain ⟨F, k0, L, c, s, X1, -⟩ := id W
  exact Go.retW W hC hS (fun q => by rw [hr] at q; cases q) (fun fs q => retOut X1 W.x (F.2.2.2.1.trans hr) hz (Or.inl ⟨rfl, Or.inr (Or.inl rfl), z, rfl⟩) (W.d hd) q) hQ
theorem retC (W : Here G X M vm T h C S) (hC : C ≤ M.R.cells) (hS : S ≤ M.R.slots) (hr : M.ret = some .char) (hd : decode M.bytes pc = .ok (.ireturn, 1)) {z : Int32} (hz : narrow .char (.int z) = .int z) (hQ : Q (some (.int z)) h) : Go G X M Q T pc Ls (.int z :: st) := by
  obtain ⟨F, k0, L, c, s, X1, -⟩ := id W
  exact Go.retW W hC hS (fun q => by rw [hr] at q; cases q) (fun fs q => retOut X1 W.x (F.2.2.2.1.trans hr) hz (Or.inl ⟨rfl, Or.inr (Or.inr (Or.inr (Or.inl rfl))), z, rfl⟩) (W.d hd) q) hQ
theorem retY (W : Here G X M vm T h C S) (hC : C ≤ M.R.cells) (hS : S ≤ M.R.slots) (hr : M.ret = some .byte) (hd : decode M.bytes pc = .ok (.ireturn, 1)) {z : Int32} (hz : narrow .byte (.int z) = .int z) (hQ : Q (some (.int z)) h) : Go G X M Q T pc Ls (.int z :: st) := by
  obtain ⟨F, k0, L, c, s, X1, -⟩ := id W
  exact Go.retW W hC hS (fun q => by rw [hr] at q; cases q) (fun fs q => retOut X1 W.x (F.2.2.2.1.trans hr) hz (Or.inl ⟨rfl, Or.inr (Or.inr (Or.inl rfl)), z, rfl⟩) (W.d hd) q) hQ
theorem retA (W : Here G X M vm T h C S) (hC : C ≤ M.R.cells) (hS : S ≤ M.R.slots) {t : FieldType} (hr : M.ret = some t) (ht : t.isReference = true) {w : Value} (hw : w.isRef = true) (hd : decode M.bytes pc = .ok (.areturn, 1)) (hQ : Q (some w) h) : Go G X M Q T pc Ls (w :: st) := by
  obtain ⟨F, k0, L, c, s, X1, -⟩ := id W
  refine Go.retW W hC hS (fun q => by rw [hr] at q; cases q) (fun fs q => retOut X1 W.x (F.2.2.2.1.trans hr) ?_ (Or.inr (Or.inr (Or.inr (Or.inr ⟨rfl, ht, hw⟩)))) (W.d hd) q) hQ
  rcases ref_cases hw with rfl | ⟨b, rfl⟩ <;> cases t <;> first | rfl | cases ht
theorem retL (W : Here G X M vm T h C S) (hC : C ≤ M.R.cells) (hS : S ≤ M.R.slots) (hr : M.ret = some .long) (hd : decode M.bytes pc = .ok (.lreturn, 1)) {z : Int64} (hQ : Q (some (.long z)) h) : Go G X M Q T pc Ls (.long z :: st) := by
  obtain ⟨F, k0, L, c, s, X1, -⟩ := id W
  exact Go.retW W hC hS (fun q => by rw [hr] at q; cases q) (fun fs q => retOut X1 W.x (F.2.2.2.1.trans hr) rfl (Or.inr (Or.inl ⟨rfl, rfl, z, rfl⟩)) (W.d hd) q) hQ
theorem retV (W : Here G X M vm T h C S) (hC : C ≤ M.R.cells) (hS : S ≤ M.R.slots) (hr : M.ret = none) (hd : decode M.bytes pc = .ok (.return_, 1)) (hQ : Q none h) : Go G X M Q T pc Ls [] := by
  obtain ⟨F, k0, L, c, s, X1, -⟩ := id W
  exact Go.retW W hC hS (fun _ => rfl) (fun fs q => X1.returnOut W.x (F.2.2.2.1.trans hr) (W.d hd) q) hQ
/-! ### the entry -/
theorem Con.intro {ws : List Jvm.Cond} {as' : Array Value} {sf : List Addr} (hpn : plainFor M.y = true) (hO : Old G.Z G.n0 h) (hEL : EW G.Z G.a0 G.EL) (Ls0 : Array Slot) (hef : ∀ m, entryFrame m as' M.maxL = mkF m 0 Ls0 [])
    (body : ∀ (X : Rn) (T : State), Here G X M X.s.vm T h 0 0 → (∀ x ∈ sf, Safe G.Z G.EL X.s.vm h x) → Go G X M Q T 0 Ls0 []) : Con G ws M as' h sf Q := by
  refine MetFree.of_bodySF hpn hisR ?_
  intro p e s m args below meth c s₁ Bd hml0 hP hK
  obtain ⟨rfl, hZ, rfl, hCH, hsf⟩ := hP
  have hown : s.vm.findClass M.y.cls = some m.cls := findClass_of_methodNamed Bd.named
  have hnm := (name_of_methodNamed Bd.named Bd.method).1
  have X0 : Stand p G.l e M.R s m args below meth c s₁ [] 0 0 := Stand.of_body Bd
  have e0 : s₁.heap = s.heap := by rw [Bd.state]; rfl
  have q := body (p, e, s, m, args, below, meth, c) s₁ ⟨⟨Bd.exec, Bd.bytes, hml0, Bd.returns, Bd.notSynchronized, hnm, hEL⟩, s.heap.size, [], 0, 0, X0, e0, (State.WarmedH.refl s).since _, Nat.le_refl _, hZ, hown, CHr.refl hCH, Fr.nil _, hO, Nat.le_refl 0, Nat.le_refl 0⟩ hsf
  rw [hef m]
  exact q
/-! ### calls -/
theorem Con.pay {N : Bo} {as' : Array Value} {sf : List Addr} {Qy : Option Value → Heap → Prop} (K : Con G [] N as' h sf Qy) (W : Here G X M vm T h C S) (wc : (Jvm.Cond.code N.y N.bytes N.maxL N.ret).before G.a0 G.Z = true) (wz : (Jvm.Cond.initialized N.y.cls).before G.a0 G.Z = true) {len wd : Nat}
    (hf : N.R.frames + 1 ≤ M.R.frames) (hl : wd + (N.maxL + 11) + N.R.locals ≤ M.R.locals) (hsf : ∀ x ∈ sf, x < h.size ∧ Safe G.Z G.EL vm h x) : Pay G X M vm h N.y len wd as' N.R.cells N.R.slots Qy := by
  have hZ := W.wz
  have hEL := W.1.2.2.2.2.2.2
  have H := W.ch
  exact BackS.of_freeW (bytes := N.bytes) (maxL := N.maxL) (ret := N.ret) (E := fun _ first o t L k n => k = N.R.cells ∧ n = N.R.slots ∧ (∃ v, o = .returned v ∧ Qy v t.heap ∧ Fr G.n0 L ∧ Old G.Z G.n0 t.heap) ∧ CHr G.Z G.EL first.vm first.heap t.vm t.heap) K hf hl
    (fun m meth c A a Y hp => have hU : G.Z.Warmed39 A.U.vm := wtrans (s := X.s.setVm vm) hZ Y.warmed
      ⟨by show (Cond.and _ .tt).before a A.U = true; rw [Cond.before_and, mv hU wc]; rfl, mv hU wc, mv hU wz, hp.2.2.1, hp.2.2.2⟩)
    (fun m meth c A a g mk Y hp => ⟨hp.1, wtrans (s := X.s.setVm vm) hZ Y.warmed, hp.2.1, (CHv.at Y hZ hEL H).1, fun x hx => (CHv.at Y hZ hEL H).safe (hsf x hx).1 (hsf x hx).2⟩) (fun _ _ _ _ _ _ _ _ _ => trivial)
    (fun _ _ _ _ ⟨v, L, h1, h2, h3, h4⟩ => ⟨L, _, _, h4, rfl, rfl, ⟨v, h1, h2⟩, h3⟩)
    (fun m meth c A a g mk v t L k n Y hp _ _ ⟨e1, e2, ⟨v', e3, e4⟩, e5⟩ => by
      cases e3; subst e1 e2
      refine ⟨L, e4, rfl, Nat.le_refl _, Nat.le_refl _, (CHv.at Y hZ hEL H).trans ?_⟩
      rw [← hp.2.1]; exact e5)
/-- a law of the other shape pays too: its callee interns nothing -/
theorem payB {y : MethodName} {len wd kc ks : Nat} {as' : Array Value} {Qy : Option Value → Heap → List Loc → Prop} {Q' : Option Value → Heap → Prop}
    (B : Back G.l M.R X.p X.e X.below (X.s.setVm vm) X.args y len wd (fun P a => a = as' ∧ P.U.heap = h ∧ P.cells + kc ≤ M.R.cells ∧ P.slots + ks ≤ M.R.slots) (fun P _ v B => ∃ L, Qy v B.U.heap L ∧ B.locs = P.locs ++ L ∧ B.cells = P.cells + kc ∧ B.slots = P.slots + ks))
    (W : Here G X M vm T h C S) (hq : ∀ v h' L, Qy v h' L → Q' v h' ∧ Fr G.n0 L ∧ Old G.Z G.n0 h' ∧ CHr G.Z G.EL vm h vm h') : Pay G X M vm h y len wd as' kc ks Q' := by
  intro m meth c A g ig mk a X1 hg hsize hdg hW hn hp
  obtain ⟨v, B', X', ⟨L, q, e1, e2, e3⟩, st⟩ := B m meth c A g ig mk a X1 hg hsize hdg hW hn hp
  obtain ⟨q1, q2, q3, q4⟩ := hq _ _ _ q
  refine ⟨v, B', X'.retabled X'.warmed.wide, X'.warmed.since _, ?_, ⟨L, ⟨q1, q2, q3⟩, e1, Nat.le_of_eq e2, Nat.le_of_eq e3, q4.trans (CHv.at X' W.wz W.1.2.2.2.2.2.2 q4.1)⟩, st⟩
  rw [hp.2.1]; exact q4.2.1
theorem Here.call (W : Here G X M vm T h C S) {kc ks C' S' : Nat} {v : Option Value} {Qy : Option Value → Heap → Prop} (hc : C + kc ≤ C') (hs : S + ks ≤ S')
    {k0 : Nat} {locs : List Loc} {cells slots : Nat} (hS : X.s.Since vm k0) (hk : k0 ≤ h.size) (hown : vm.findClass M.y.cls = some X.m.cls) (hCH : CHr G.Z G.EL X.s.vm X.s.heap vm h) (hF : Fr G.n0 locs) (c1 : cells ≤ C) (s1 : slots ≤ S) {B : Pt}
    (X' : Stand X.p G.l X.e M.R ((X.s.setVm vm).setVm B.U.vm) X.m X.args X.below X.meth X.c B.U B.locs B.cells B.slots) (h2 : (X.s.setVm vm).Since B.U.vm B.U.heap.size) (hg : h.size ≤ B.U.heap.size) {L : List Loc}
    (hq : (Qy v B.U.heap ∧ Fr G.n0 L ∧ Old G.Z G.n0 B.U.heap) ∧ B.locs = locs ++ L ∧ B.cells ≤ cells + kc ∧ B.slots ≤ slots + ks ∧ CHr G.Z G.EL vm h B.U.vm B.U.heap) : Here G X M B.U.vm B.U B.U.heap C' S' := by
  obtain ⟨X2, S2, Z2, o2⟩ := rebS hS hk X' h2 hg W.wz hown
  obtain ⟨⟨-, q2, q3⟩, e1, e2, e3, q4⟩ := hq
  refine ⟨W.1, _, _, _, _, X2, rfl, S2, Nat.le_refl _, Z2, o2, hCH.trans q4, ?_, q3, ?_, ?_⟩
  · rw [e1]; exact hF.app q2
  · omega
  · omega
theorem callS (W : Here G X M vm T h C S) {y : MethodName} {idx : Nat} {bytes : ByteArray} {maxL : Nat} {ret : Option FieldType} (w1 : (Jvm.Cond.methodLink M.y.cls idx y).before G.a0 G.Z = true) (w2 : (Jvm.Cond.static y).before G.a0 G.Z = true) (w3 : (Jvm.Cond.initialized y.cls).before G.a0 G.Z = true) (w4 : (Jvm.Cond.code y bytes maxL ret).before G.a0 G.Z = true)
    (hy : y.cls ≠ "java/lang/invoke/MethodHandle" ∧ y.cls ≠ "java/lang/invoke/VarHandle") {wd kc ks : Nat} {argsL rest : List Value} {Qy : Option Value → Heap → Prop} (P : Pay G X M vm h y 3 wd argsL.toArray kc ks Qy) (hsz : Ls.size = M.maxL) (hlen : ∀ sig, parseMethodDescriptor y.desc = some sig → argsL.length = sig.parameters.length)
    (hstk : st = argsL.reverse ++ rest) (hwd : (rest.map fun v => v.category).sum ≤ wd) (hd : decode M.bytes pc = .ok (.invokestatic idx, 3)) (pc' : Nat) (hp : pc + 3 = pc') (C' S' : Nat) (hc : C + kc ≤ C') (hs : S + ks ≤ S') (hc' : C' ≤ M.R.cells) (hs' : S' ≤ M.R.slots)
    (k : ∀ (vm' : Vm) (T' : State) (h' : Heap) (v : Option Value), Here G X M vm' T' h' C' S' → CHr G.Z G.EL vm h vm' h' → Qy v h' → Go G X M Q T' pc' Ls (v.toList ++ rest)) : Go G X M Q T pc Ls st := by
  subst hp hstk
  obtain ⟨F, k0, locs, cells, slots, X1, e1, hS, hk, hZ, hown, hCH, hF, O, c1, s1⟩ := id W
  subst e1
  obtain ⟨v, vm₁, B, -, X', h2, hg, ⟨L, hq⟩, st'⟩ := callSS X1 W.x (y := y) hown (mv (s := X.s.setVm vm) hZ w1) (mv (s := X.s.setVm vm) hZ w2) (mv (s := X.s.setVm vm) hZ w3) (mv (s := X.s.setVm vm) hZ w4) hy P (g := mkF X.m pc Ls (argsL.reverse ++ rest)) rfl (hsz.trans F.2.2.1.symm) (argsL := argsL) (rest := rest) hlen rfl (by show 2 * 0 + _ ≤ _; omega) (W.d hd) (fun _ _ => ⟨rfl, rfl, by show cells + kc ≤ _; omega, by show slots + ks ≤ _; omega⟩)
  exact Go.stp (fun t r => st'.trans r) (k B.U.vm B.U B.U.heap v (Here.call W hc hs hS hk hown hCH hF c1 s1 X' h2 hg hq) hq.2.2.2.2 hq.1.1)
theorem callX (W : Here G X M vm T h C S) {y : MethodName} {idx : Nat} {bytes : ByteArray} {maxL : Nat} (hy1 : y.name = "<init>") (w1 : (Jvm.Cond.methodLink M.y.cls idx y).before G.a0 G.Z = true) (w2 : (Jvm.Cond.instanceMethod y).before G.a0 G.Z = true) (w4 : (Jvm.Cond.code y bytes maxL none).before G.a0 G.Z = true)
    (hy : y.cls ≠ "java/lang/invoke/MethodHandle" ∧ y.cls ≠ "java/lang/invoke/VarHandle") {wd kc ks : Nat} {a : Addr} {argsL rest : List Value} {Qy : Option Value → Heap → Prop} (P : Pay G X M vm h y 3 wd (.ref a :: argsL).toArray kc ks Qy) (hsz : Ls.size = M.maxL) (hlen : ∀ sig, parseMethodDescriptor y.desc = some sig → argsL.length = sig.parameters.length)
    (hstk : st = argsL.reverse ++ .ref a :: rest) (hwd : (rest.map fun v => v.category).sum ≤ wd) (hd : decode M.bytes pc = .ok (.invokespecial idx, 3)) (pc' : Nat) (hp : pc + 3 = pc') (C' S' : Nat) (hc : C + kc ≤ C') (hs : S + ks ≤ S') (hc' : C' ≤ M.R.cells) (hs' : S' ≤ M.R.slots)
    (k : ∀ (vm' : Vm) (T' : State) (h' : Heap) (v : Option Value), Here G X M vm' T' h' C' S' → CHr G.Z G.EL vm h vm' h' → Qy v h' → Go G X M Q T' pc' Ls (v.toList ++ rest)) : Go G X M Q T pc Ls st := by
  subst hp hstk
  obtain ⟨F, k0, locs, cells, slots, X1, e1, hS, hk, hZ, hown, hCH, hF, O, c1, s1⟩ := id W
  subst e1
  obtain ⟨v, vm₁, B, -, X', h2, hg, ⟨L, hq⟩, st'⟩ := X1.specialBackS W.x (y := y) hy1 hown (mv (s := X.s.setVm vm) hZ w1) (mv (s := X.s.setVm vm) hZ w2) (mv (s := X.s.setVm vm) hZ w4) hy P (g := mkF X.m pc Ls (argsL.reverse ++ .ref a :: rest)) rfl (hsz.trans F.2.2.1.symm) (Steps.refl _) (a := a) (argsL := argsL) (rest := rest) hlen rfl (by show 2 * 0 + _ ≤ _; omega) (W.d hd) (fun _ _ => ⟨rfl, rfl, by show cells + kc ≤ _; omega, by show slots + ks ≤ _; omega⟩)
  exact Go.stp (fun t r => st'.trans r) (k B.U.vm B.U B.U.heap v (Here.call W hc hs hS hk hown hCH hF c1 s1 X' h2 hg hq) hq.2.2.2.2 hq.1.1)
theorem callV (W : Here G X M vm T h C S) {y z : MethodName} {idx : Nat} {cl : String} (w1 : (Jvm.Cond.methodLink M.y.cls idx y).before G.a0 G.Z = true) (w2 : (Jvm.Cond.declares y).before G.a0 G.Z = true) (nf : ∀ s : State, G.Z.Warmed39 s.vm → NotFace s y) (w3 : (Jvm.Cond.selects cl y z).before G.a0 G.Z = true) (w4 : (Jvm.Cond.instanceMethod z).before G.a0 G.Z = true)
    (hy : y.cls ≠ "java/lang/invoke/MethodHandle" ∧ y.cls ≠ "java/lang/invoke/VarHandle") {wd kc ks : Nat} {a : Addr} {argsL rest : List Value} {Qy : Option Value → Heap → Prop} (P : Pay G X M vm h z 3 wd (.ref a :: argsL).toArray kc ks Qy) (E : Exa G.Z h a cl) (hsz : Ls.size = M.maxL) (hlen : ∀ sig, parseMethodDescriptor y.desc = some sig → argsL.length = sig.parameters.length)
    (hstk : st = argsL.reverse ++ .ref a :: rest) (hwd : (rest.map fun v => v.category).sum ≤ wd) (hd : decode M.bytes pc = .ok (.invokevirtual idx, 3)) (pc' : Nat) (hp : pc + 3 = pc') (C' S' : Nat) (hc : C + kc ≤ C') (hs : S + ks ≤ S') (hc' : C' ≤ M.R.cells) (hs' : S' ≤ M.R.slots)
    (k : ∀ (vm' : Vm) (T' : State) (h' : Heap) (v : Option Value), Here G X M vm' T' h' C' S' → CHr G.Z G.EL vm h vm' h' → Qy v h' → Go G X M Q T' pc' Ls (v.toList ++ rest)) : Go G X M Q T pc Ls st := by
  subst hp hstk
  obtain ⟨F, k0, locs, cells, slots, X1, e1, hS, hk, hZ, hown, hCH, hF, O, c1, s1⟩ := id W
  obtain ⟨cq, kq, qa, qb, qc⟩ := isOf (s := X.s.setVm vm) hZ e1 E
  subst e1
  obtain ⟨v, vm₁, B, -, X', h2, hg, ⟨L, hq⟩, st'⟩ := X1.virtualBackS W.x (y := y) (z := z) hown (mv (s := X.s.setVm vm) hZ w1) (mv (s := X.s.setVm vm) hZ w2) (nf _ hZ) (mv (s := X.s.setVm vm) hZ w3) (mv (s := X.s.setVm vm) hZ w4) hy P qa qc (g := mkF X.m pc Ls (argsL.reverse ++ .ref a :: rest)) rfl (hsz.trans F.2.2.1.symm) (Steps.refl _) (argsL := argsL) (rest := rest) hlen rfl (by show 2 * 0 + _ ≤ _; omega) (W.d hd) (fun _ _ => ⟨rfl, rfl, by show cells + kc ≤ _; omega, by show slots + ks ≤ _; omega⟩)
  exact Go.stp (fun t r => st'.trans r) (k B.U.vm B.U B.U.heap v (Here.call W hc hs hS hk hown hCH hF c1 s1 X' h2 hg hq) hq.2.2.2.2 hq.1.1)
theorem callI (W : Here G X M vm T h C S) {y z : MethodName} {idx count : Nat} {cl : String} (w1 : (Jvm.Cond.methodLink M.y.cls idx y).before G.a0 G.Z = true) (w2 : (Jvm.Cond.declares y).before G.a0 G.Z = true) (wf : (Jvm.Cond.interfaceMethod y.cls y.cls y.name y.desc).before G.a0 G.Z = true) (hfa : ((Jvm.Cond.interfaceMethod y.cls y.cls y.name y.desc).onTables && (Jvm.Cond.interfaceMethod y.cls y.cls y.name y.desc).keepsFace) = true) (w3 : (Jvm.Cond.selects cl y z).before G.a0 G.Z = true) (w4 : (Jvm.Cond.instanceMethod z).before G.a0 G.Z = true)
    (w5 : (Jvm.Cond.publicMethod z).before G.a0 G.Z = true) (w6 : (Jvm.Cond.unhidden cl y.name y.desc).before G.a0 G.Z = true) (w7 : (Jvm.Cond.castable cl y.cls).before G.a0 G.Z = true)
    (hy : y.cls ≠ "java/lang/invoke/MethodHandle" ∧ y.cls ≠ "java/lang/invoke/VarHandle") {wd kc ks : Nat} {a : Addr} {argsL rest : List Value} {Qy : Option Value → Heap → Prop} (P : Pay G X M vm h z 5 wd (.ref a :: argsL).toArray kc ks Qy) (E : Exa G.Z h a cl) (hsz : Ls.size = M.maxL) (hlen : ∀ sig, parseMethodDescriptor y.desc = some sig → argsL.length = sig.parameters.length)
    (hstk : st = argsL.reverse ++ .ref a :: rest) (hwd : (rest.map fun v => v.category).sum ≤ wd) (hd : decode M.bytes pc = .ok (.invokeinterface idx count, 5)) (pc' : Nat) (hp : pc + 5 = pc') (C' S' : Nat) (hc : C + kc ≤ C') (hs : S + ks ≤ S') (hc' : C' ≤ M.R.cells) (hs' : S' ≤ M.R.slots)
    (k : ∀ (vm' : Vm) (T' : State) (h' : Heap) (v : Option Value), Here G X M vm' T' h' C' S' → CHr G.Z G.EL vm h vm' h' → Qy v h' → Go G X M Q T' pc' Ls (v.toList ++ rest)) : Go G X M Q T pc Ls st := by
  subst hp hstk
  obtain ⟨F, k0, locs, cells, slots, X1, e1, hS, hk, hZ, hown, hCH, hF, O, c1, s1⟩ := id W
  obtain ⟨cq, kq, qa, qb, qc⟩ := isOf (s := X.s.setVm vm) hZ e1 E
  subst e1
  obtain ⟨v, vm₁, B, -, X', h2, hg, ⟨L, hq⟩, st'⟩ := X1.interfaceBackS W.x (xi := y) (y := z) hown (mv (s := X.s.setVm vm) hZ w1) (mv (s := X.s.setVm vm) hZ w2) (mv (s := X.s.setVm vm) hZ wf hfa) (mv (s := X.s.setVm vm) hZ w3) (mv (s := X.s.setVm vm) hZ w4) (mv (s := X.s.setVm vm) hZ w5) (mv (s := X.s.setVm vm) hZ w6) (mv (s := X.s.setVm vm) hZ w7) hy P qa qb qc (g := mkF X.m pc Ls (argsL.reverse ++ .ref a :: rest)) rfl (hsz.trans F.2.2.1.symm) (Steps.refl _) (argsL := argsL) (rest := rest) hlen rfl (by show 2 * 0 + _ ≤ _; omega) (W.d hd) (fun _ _ => ⟨rfl, rfl, by show cells + kc ≤ _; omega, by show slots + ks ≤ _; omega⟩)
  exact Go.stp (fun t r => st'.trans r) (k B.U.vm B.U B.U.heap v (Here.call W hc hs hS hk hown hCH hF c1 s1 X' h2 hg hq) hq.2.2.2.2 hq.1.1)
/-! ### steps on the heap -/
theorem Here.ext (W : Here G X M vm T h C S) {T' : State} {h' : Heap} {k0 : Nat} {locs : List Loc} {cells slots C' S' : Nat} (hS : X.s.Since vm k0) (hk : k0 ≤ h.size) (hown : vm.findClass M.y.cls = some X.m.cls) (hCH : CHr G.Z G.EL X.s.vm X.s.heap vm h) (hF : Fr G.n0 locs)
    (X' : Stand X.p G.l X.e M.R (X.s.setVm vm) X.m X.args X.below X.meth X.c T' locs cells slots) (e' : T'.heap = h') (E : Ext h h') (hc : cells ≤ C') (hs : slots ≤ S') : Here G X M vm T' h' C' S' :=
  ⟨W.1, k0, locs, cells, slots, X', e', hS, Nat.le_trans hk E.1, W.wz, hown, hCH.trans (CHr.ext E hCH.1), hF, W.old.ext E, hc, hs⟩
theorem newO (W : Here G X M vm T h C S) {cl : String} {idx n : Nat} (w : (Jvm.Cond.classLink M.y.cls idx cl).before G.a0 G.Z = true) (wi : (Jvm.Cond.instantiable cl n).before G.a0 G.Z = true) (wz : (Jvm.Cond.initialized cl).before G.a0 G.Z = true) (hd : decode M.bytes pc = .ok (.new idx, 3)) (pc' : Nat) (hp : pc + 3 = pc') (C' S' : Nat) (hc : C + 1 ≤ C') (hs : S + n ≤ S') (hc' : C' ≤ M.R.cells) (hs' : S' ≤ M.R.slots)
    (k : ∀ (T' : State) (h' : Heap) (a : Addr), a = h.size → Here G X M vm T' h' C' S' → Ext h h' → Exa G.Z h' a cl → (∀ {O nm d : String} {ty : FieldType}, Laid G.Z G.a0 cl O nm d → parseFieldDescriptor d = some ty → Fld G.Z h' a O nm d (defaultValue ty)) → Safe G.Z G.EL vm h' a → (∀ y, Safe G.Z G.EL vm h y → Safe G.Z G.EL vm h' y) → Go G X M Q T' pc' Ls (.ref a :: st)) : Go G X M Q T pc Ls st := by
  subst hp
  obtain ⟨F, k0, locs, cells, slots, X1, e1, hS, hk, hZ, hown, hCH, hF, O, c1, s1⟩ := id W
  obtain ⟨T', h', X', e', E, A, D, -, st'⟩ := RoadKit.newO X1 W.x hZ hown w wi wz e1 (g := mkF X.m pc Ls st) rfl (W.d hd) (by omega) (by omega)
  exact Go.stp (fun t r => st' t r) (k T' h' h.size rfl (Here.ext W hS hk hown hCH hF X' e' E (by omega) (by omega)) E A D (Safe.ext E hCH.1 (Safe.new (Nat.le_refl _))) (fun y q => Safe.ext E hCH.1 q))
theorem newA (W : Here G X M vm T h C S) {aty : ArrayType} {n : Int32} (w : (Jvm.Cond.arrayClass (newarray.typeOf aty)).before G.a0 G.Z = true) (hd : decode M.bytes pc = .ok (.newarray aty, 2)) (pc' : Nat) (hp : pc + 2 = pc') (hn : ¬ n < 0) (cap : Nat) (hcap : n.toNatClampNeg ≤ cap) (hb : cap * 8 ≤ 536870912) (C' S' : Nat) (hc : C + 1 ≤ C') (hs : S + cap ≤ S') (hc' : C' ≤ M.R.cells) (hs' : S' ≤ M.R.slots)
    (k : ∀ (T' : State) (h' : Heap) (a : Addr) (kA : ClassId), a = h.size → Here G X M vm T' h' C' S' → Ext h h' → Arv G.Z h' a kA (newarray.typeOf aty) n (List.replicate cap (defaultValue (newarray.typeOf aty))) (defaultValue (newarray.typeOf aty)) → Safe G.Z G.EL vm h' a → (∀ y, Safe G.Z G.EL vm h y → Safe G.Z G.EL vm h' y) → Go G X M Q T' pc' Ls (.ref a :: st)) : Go G X M Q T pc Ls (.int n :: st) := by
  subst hp
  obtain ⟨F, k0, locs, cells, slots, X1, e1, hS, hk, hZ, hown, hCH, hF, O, c1, s1⟩ := id W
  obtain ⟨T', h', kA, X', e', E, A, st'⟩ := RoadKit.newP X1 W.x hZ w e1 (g := mkF X.m pc Ls (.int n :: st)) rfl (W.d hd) rfl hn hcap hb (by omega) (by omega)
  exact Go.stp (fun t r => st' t r) (k T' h' h.size kA rfl (Here.ext W hS hk hown hCH hF X' e' E (by omega) (by omega)) E ((Arv.new A hn).pad (pad_rep [] _ cap)) (Safe.ext E hCH.1 (Safe.new (Nat.le_refl _))) (fun y q => Safe.ext E hCH.1 q))
theorem getF (W : Here G X M vm T h C S) {R0 O n d : String} {idx : Nat} {a : Addr} {v : Value} (w : (Jvm.Cond.fieldLink M.y.cls idx R0 n d).before G.a0 G.Z = true) (via : Via G.Z R0 O n d) (F : Fld G.Z h a O n d v) (hd : decode M.bytes pc = .ok (.getfield idx, 3)) (pc' : Nat) (hp : pc + 3 = pc')
    (k : ∀ T' : State, Here G X M vm T' h C S → Go G X M Q T' pc' Ls (v :: st)) : Go G X M Q T pc Ls (.ref a :: st) := by
  subst hp
  obtain ⟨F', k0, locs, cells, slots, X1, e1, hS, hk, hZ, hown, hCH, hF, O', c1, s1⟩ := id W
  obtain ⟨T', X', e', st'⟩ := RoadKit.getF X1 W.x hZ hown (host := "") (Or.inl w) via e1 F (g := mkF X.m pc Ls (.ref a :: st)) rfl rfl (W.d hd)
  exact Go.stp (fun t r => st' t r) (k T' (Here.ext W hS hk hown hCH hF X' e' (Ext.rfl' h) c1 s1))
theorem getS (W : Here G X M vm T h C S) {R0 O n d : String} {idx : Nat} {v : Value} (w : (Jvm.Cond.fieldLink M.y.cls idx R0 n d).before G.a0 G.Z = true) (via : Via G.Z R0 O n d) (F : Sta G.Z h O n d v) (hd : decode M.bytes pc = .ok (.getstatic idx, 3)) (pc' : Nat) (hp : pc + 3 = pc')
    (k : ∀ T' : State, Here G X M vm T' h C S → Go G X M Q T' pc' Ls (v :: st)) : Go G X M Q T pc Ls st := by
  subst hp
  obtain ⟨F', k0, locs, cells, slots, X1, e1, hS, hk, hZ, hown, hCH, hF, O', c1, s1⟩ := id W
  obtain ⟨T', X', e', st'⟩ := RoadKit.getS X1 W.x hZ (host := "") hown w via e1 F (g := mkF X.m pc Ls st) rfl (W.d hd)
  exact Go.stp (fun t r => st' t r) (k T' (Here.ext W hS hk hown hCH hF X' e' (Ext.rfl' h) c1 s1))
theorem castY (W : Here G X M vm T h C S) {K : String} {idx : Nat} {a : Addr} (w : (Jvm.Cond.classLink M.y.cls idx K).before G.a0 G.Z = true) (F : Ins G.Z h a K true) (hd : decode M.bytes pc = .ok (.checkcast idx, 3)) (pc' : Nat) (hp : pc + 3 = pc')
    (k : ∀ T' : State, Here G X M vm T' h C S → Go G X M Q T' pc' Ls (.ref a :: st)) : Go G X M Q T pc Ls (.ref a :: st) := by
  subst hp
  obtain ⟨F', k0, locs, cells, slots, X1, e1, hS, hk, hZ, hown, hCH, hF, O', c1, s1⟩ := id W
  obtain ⟨T', X', e', st'⟩ := RoadKit.castY X1 W.x hZ hown w e1 F (g := mkF X.m pc Ls (.ref a :: st)) rfl rfl (W.d hd)
  exact Go.stp (fun t r => st' t r) (k T' (Here.ext W hS hk hown hCH hF X' e' (Ext.rfl' h) c1 s1))
theorem instY (W : Here G X M vm T h C S) {K : String} {idx : Nat} {a : Addr} (w : (Jvm.Cond.classLink M.y.cls idx K).before G.a0 G.Z = true) (F : Ins G.Z h a K true) (hd : decode M.bytes pc = .ok (.instanceof idx, 3)) (pc' : Nat) (hp : pc + 3 = pc')
    (k : ∀ T' : State, Here G X M vm T' h C S → Go G X M Q T' pc' Ls (.int 1 :: st)) : Go G X M Q T pc Ls (.ref a :: st) := by
  subst hp
  obtain ⟨F', k0, locs, cells, slots, X1, e1, hS, hk, hZ, hown, hCH, hF, O', c1, s1⟩ := id W
  obtain ⟨T', X', e', st'⟩ := RoadKit.instY X1 W.x hZ hown w e1 F (g := mkF X.m pc Ls (.ref a :: st)) rfl rfl (W.d hd)
  exact Go.stp (fun t r => st' t r) (k T' (Here.ext W hS hk hown hCH hF X' e' (Ext.rfl' h) c1 s1))
theorem instNo (W : Here G X M vm T h C S) {K c0 : String} {idx : Nat} {a : Addr} (w : (Jvm.Cond.classLink M.y.cls idx K).before G.a0 G.Z = true) (E : Exa G.Z h a c0) (F : ∃ c t, G.Z.vm.findClass c0 = some c ∧ G.Z.vm.findClass K = some t ∧ G.Z.vm.assignable c t = false) (hd : decode M.bytes pc = .ok (.instanceof idx, 3)) (pc' : Nat) (hp : pc + 3 = pc')
    (k : ∀ T' : State, Here G X M vm T' h C S → Go G X M Q T' pc' Ls (.int 0 :: st)) : Go G X M Q T pc Ls (.ref a :: st) := by
  subst hp
  obtain ⟨F', k0, locs, cells, slots, X1, e1, hS, hk, hZ, hown, hCH, hF, O', c1, s1⟩ := id W
  obtain ⟨T', X', e', st'⟩ := RoadKit.instNo X1 W.x hZ hown w e1 E F (g := mkF X.m pc Ls (.ref a :: st)) rfl rfl (W.d hd)
  exact Go.stp (fun t r => st' t r) (k T' (Here.ext W hS hk hown hCH hF X' e' (Ext.rfl' h) c1 s1))
theorem instNull (W : Here G X M vm T h C S) {idx : Nat} (hd : decode M.bytes pc = .ok (.instanceof idx, 3)) (pc' : Nat) (hp : pc + 3 = pc') (k : Go G X M Q T pc' Ls (.int 0 :: st)) : Go G X M Q T pc Ls (.null :: st) := by
  subst hp
  obtain ⟨F', k0, locs, cells, slots, X1, -⟩ := id W
  exact Go.stp (fun t r => X1.instanceofNull W.x (g := mkF X.m pc Ls (.null :: st)) rfl rfl (W.d hd) t r) k
theorem castNull (W : Here G X M vm T h C S) {idx : Nat} (hd : decode M.bytes pc = .ok (.checkcast idx, 3)) (pc' : Nat) (hp : pc + 3 = pc') (k : Go G X M Q T pc' Ls (.null :: st)) : Go G X M Q T pc Ls (.null :: st) := by
  subst hp
  obtain ⟨F', k0, locs, cells, slots, X1, -⟩ := id W
  exact Go.stp (fun t r => X1.checkcastNull W.x (g := mkF X.m pc Ls (.null :: st)) rfl rfl (W.d hd) t r) k
theorem Here.wr (W : Here G X M vm T h C S) {T' : State} {h' : Heap} {k0 : Nat} {locs : List Loc} {cells slots : Nat} {a : Addr} {sl : Nat} {v : Value} (hS : X.s.Since vm k0) (hk : k0 ≤ h.size) (hown : vm.findClass M.y.cls = some X.m.cls) (hCH : CHr G.Z G.EL X.s.vm X.s.heap vm h) (hF : Fr G.n0 locs) (ha : G.n0 ≤ a) (sf : Safe G.Z G.EL vm h a)
    (X' : Stand X.p G.l X.e M.R (X.s.setVm vm) X.m X.args X.below X.meth X.c T' (locs ++ [⟨a, sl⟩]) cells slots) (e' : T'.heap = h') (E : Wr h h' a sl v) (hc : cells ≤ C) (hs : slots ≤ S) : Here G X M vm T' h' C S :=
  ⟨W.1, k0, _, cells, slots, X', e', hS, by rw [E.size]; exact hk, W.wz, hown, hCH.trans (CHr.wr E sf hCH.1), Fr.snoc X' hF ha, W.old.wr E ha, hc, hs⟩
theorem putF (W : Here G X M vm T h C S) {R0 O n d cl : String} {idx kk : Nat} {ty : FieldType} {a : Addr} {v v' old : Value} (w : (Jvm.Cond.fieldLink M.y.cls idx R0 n d).before G.a0 G.Z = true) (via : Via G.Z R0 O n d) (F : Fld G.Z h a O n d old) (E : Exa G.Z h a cl)
    (L : (Jvm.Cond.lays cl O n d).before G.a0 G.Z = true ∨ ((Jvm.Cond.laysFinal cl O n d).before G.a0 G.Z = true ∧ M.y.cls = O ∧ M.y.name = "<init>")) (wi : (Jvm.Cond.instantiable cl kk).before G.a0 G.Z = true) (hty : parseFieldDescriptor d = some ty) (hn : narrow ty v = v') (hf : fits ty v' = true) (ha : G.n0 ≤ a) (sf : Safe G.Z G.EL vm h a)
    (hd : decode M.bytes pc = .ok (.putfield idx, 3)) (pc' : Nat) (hp : pc + 3 = pc') (k : ∀ (T' : State) (h' : Heap), Here G X M vm T' h' C S → Wr h h' a (RoadKit.slotOf G.Z O n d) v' → (∀ y, Safe G.Z G.EL vm h y → Safe G.Z G.EL vm h' y) → Go G X M Q T' pc' Ls st) : Go G X M Q T pc Ls (v :: .ref a :: st) := by
  subst hp
  obtain ⟨F', k0, locs, cells, slots, X1, e1, hS, hk, hZ, hown, hCH, hF, O', c1, s1⟩ := id W
  obtain ⟨T', h', X', e', Wq, st'⟩ := RoadKit.putFN X1 W.x hZ hown w via e1 F E (L.imp id fun q => ⟨q.1, q.2.1, F'.2.2.2.2.2.1.trans q.2.2⟩) wi hty hn hf (g := mkF X.m pc Ls (v :: .ref a :: st)) rfl rfl (W.d hd)
  exact Go.stp (fun t r => st' t r) (k T' h' (Here.wr W hS hk hown hCH hF ha sf X' e' Wq c1 s1) Wq (fun y q => Safe.wr Wq sf hCH.1 q))
theorem castore (W : Here G X M vm T h C S) {a : Addr} {kA : ClassId} {z j x : Int32} {vs : List Value} {dv : Value} (A : Arv G.Z h a kA .char z vs dv) (i : Nat) (hj : j.toNatClampNeg = i) (hj0 : ¬ j < 0 ∧ j < z) (hi : i < vs.length) (ha : G.n0 ≤ a) {x' : Int32} (hx' : nar .char x = x') (hd : decode M.bytes pc = .ok (.castore, 1)) (pc' : Nat) (hp : pc + 1 = pc')
    (k : ∀ (T' : State) (h' : Heap), Here G X M vm T' h' C S → Wr h h' a i (.int x') → Arv G.Z h' a kA .char z (vs.set i (.int x')) dv → (∀ y, Safe G.Z G.EL vm h y → Safe G.Z G.EL vm h' y) → Go G X M Q T' pc' Ls st) : Go G X M Q T pc Ls (.int x :: .int j :: .ref a :: st) := by
  subst hp hj hx'
  obtain ⟨F', k0, locs, cells, slots, X1, e1, hS, hk, hZ, hown, hCH, hF, O', c1, s1⟩ := id W
  have sf : Safe G.Z G.EL vm h a := Safe.arv hZ.alike A (by decide)
  obtain ⟨cl, A1, q, Sz, Nz, H, Gz⟩ := A
  obtain ⟨T', h', X', e', Wq, st'⟩ := RoadKit.stC X1 W.x hZ e1 A1 (j := j) (inb_of Sz hj0) (g := mkF X.m pc Ls (.int x :: .int j :: .ref a :: st)) rfl rfl (W.d hd)
  exact Go.stp (fun t r => st' t r) (k T' h' (Here.wr W hS hk hown hCH hF ha sf X' e' Wq c1 s1) Wq (Arv.set A1 q Sz Nz H Gz (fits_nar_char _) Wq _ rfl hi) (fun y q => Safe.wr Wq sf hCH.1 q))
theorem arrlen (W : Here G X M vm T h C S) {a : Addr} {kA : ClassId} {ty : FieldType} {z : Int32} {vs : List Value} {dv : Value} (A : Arv G.Z h a kA ty z vs dv) (hd : decode M.bytes pc = .ok (.arraylength, 1)) (pc' : Nat) (hp : pc + 1 = pc') (k : Go G X M Q T pc' Ls (.int z :: st)) : Go G X M Q T pc Ls (.ref a :: st) := by
  subst hp
  obtain ⟨F', k0, locs, cells, slots, X1, e1, hS, hk, hZ, hown, hCH, hF, O', c1, s1⟩ := id W
  obtain ⟨cl, A1, q, Sz, Nz, H, Gz⟩ := A
  rw [← len_of Sz Nz] at k
  exact Go.stp (fun t r => X1.arraylength W.x (by rw [e1]; exact A1.1) (State.isArrayOf_alike (T := X.s.setVm vm) hZ.alike A1.2.1) (g := mkF X.m pc Ls (.ref a :: st)) rfl rfl (W.d hd) t r) k
theorem caload (W : Here G X M vm T h C S) {a : Addr} {kA : ClassId} {z j : Int32} {vs : List Value} {dv : Value} (A : Arv G.Z h a kA .char z vs dv) (hj0 : ¬ j < 0 ∧ j < z) (v : Value) (hv : vs.getD j.toNatClampNeg dv = v) (hd : decode M.bytes pc = .ok (.caload, 1)) (pc' : Nat) (hp : pc + 1 = pc') (k : Go G X M Q T pc' Ls (v :: st)) : Go G X M Q T pc Ls (.int j :: .ref a :: st) := by
  subst hp
  obtain ⟨F', k0, locs, cells, slots, X1, e1, hS, hk, hZ, hown, hCH, hF, O', c1, s1⟩ := id W
  obtain ⟨cl, A1, q, Sz, Nz, H, Gz⟩ := A
  exact Go.stp (fun t r => X1.caload W.x (by rw [e1]; exact A1.1) (State.isArrayOf_alike (T := X.s.setVm vm) hZ.alike A1.2.1) A1.2.2 (inb_of Sz hj0) (H.at (inb_of Sz hj0) hv) (g := mkF X.m pc Ls (.int j :: .ref a :: st)) rfl rfl (W.d hd) t r) k
theorem bastore (W : Here G X M vm T h C S) {a : Addr} {kA : ClassId} {z j x : Int32} {vs : List Value} {dv : Value} (A : Arv G.Z h a kA .byte z vs dv) (i : Nat) (hj : j.toNatClampNeg = i) (hj0 : ¬ j < 0 ∧ j < z) (hi : i < vs.length) (ha : G.n0 ≤ a) (sf : Safe G.Z G.EL vm h a) {x' : Int32} (hx' : nar .byte x = x') (hd : decode M.bytes pc = .ok (.bastore, 1)) (pc' : Nat) (hp : pc + 1 = pc')
    (k : ∀ (T' : State) (h' : Heap), Here G X M vm T' h' C S → Wr h h' a i (.int x') → Arv G.Z h' a kA .byte z (vs.set i (.int x')) dv → (∀ y, Safe G.Z G.EL vm h y → Safe G.Z G.EL vm h' y) → Go G X M Q T' pc' Ls st) : Go G X M Q T pc Ls (.int x :: .int j :: .ref a :: st) := by
  subst hp hj hx'
  obtain ⟨F', k0, locs, cells, slots, X1, e1, hS, hk, hZ, hown, hCH, hF, O', c1, s1⟩ := id W
  obtain ⟨cl, A1, q, Sz, Nz, H, Gz⟩ := A
  obtain ⟨T', h', X', e', Wq, st'⟩ := RoadKit.stB X1 W.x hZ e1 A1 (j := j) (inb_of Sz hj0) (g := mkF X.m pc Ls (.int x :: .int j :: .ref a :: st)) rfl rfl (W.d hd)
  exact Go.stp (fun t r => st' t r) (k T' h' (Here.wr W hS hk hown hCH hF ha sf X' e' Wq c1 s1) Wq (Arv.set A1 q Sz Nz H Gz (fits_nar_byte _) Wq _ rfl hi) (fun y q => Safe.wr Wq sf hCH.1 q))
theorem baload (W : Here G X M vm T h C S) {a : Addr} {kA : ClassId} {z j : Int32} {vs : List Value} {dv : Value} (A : Arv G.Z h a kA .byte z vs dv) (hj0 : ¬ j < 0 ∧ j < z) (v : Value) (hv : vs.getD j.toNatClampNeg dv = v) (hd : decode M.bytes pc = .ok (.baload, 1)) (pc' : Nat) (hp : pc + 1 = pc') (k : Go G X M Q T pc' Ls (v :: st)) : Go G X M Q T pc Ls (.int j :: .ref a :: st) := by
  subst hp
  obtain ⟨F', k0, locs, cells, slots, X1, e1, hS, hk, hZ, hown, hCH, hF, O', c1, s1⟩ := id W
  obtain ⟨cl, A1, q, Sz, Nz, H, Gz⟩ := A
  exact Go.stp (fun t r => X1.baloadBytes W.x (by rw [e1]; exact A1.1) (State.isArrayOf_alike (T := X.s.setVm vm) hZ.alike A1.2.1) A1.2.2 (inb_of Sz hj0) (H.at (inb_of Sz hj0) hv) (g := mkF X.m pc Ls (.int j :: .ref a :: st)) rfl rfl (W.d hd) t r) k
theorem initO (W : Here G X M vm T h C S) {idx : Nat} {a : Addr} (w1 : (Jvm.Cond.methodLink M.y.cls idx Lib.objectInit).before G.a0 G.Z = true) (w2 : (Jvm.Cond.instanceMethod Lib.objectInit).before G.a0 G.Z = true) (w3 : (Jvm.Cond.code Lib.objectInit ⟨#[0xb1]⟩ 1 none).before G.a0 G.Z = true) (hsz : Ls.size = M.maxL)
    (hd : decode M.bytes pc = .ok (.invokespecial idx, 3)) (pc' : Nat) (hp : pc + 3 = pc') (hf : 1 ≤ M.R.frames) (hl : (st.map fun v => v.category).sum + 12 ≤ M.R.locals) (k : ∀ T' : State, Here G X M vm T' h C S → Go G X M Q T' pc' Ls st) : Go G X M Q T pc Ls (.ref a :: st) := by
  subst hp
  obtain ⟨F', k0, locs, cells, slots, X1, e1, hS, hk, hZ, hown, hCH, hF, O', c1, s1⟩ := id W
  obtain ⟨T', X', e', st'⟩ := RoadKit.initO X1 W.x hZ hown w1 w2 w3 e1 (g := mkF X.m pc Ls (.ref a :: st)) rfl (hsz.trans F'.2.2.1.symm) rfl (W.d hd) hf (W := (st.map fun v => v.category).sum) (by show 2 * 0 + _ ≤ _; omega) hl
  exact Go.stp (fun t r => st' t r) (k T' (Here.ext W hS hk hown hCH hF X' e' (Ext.rfl' h) c1 s1))
/-! ### more plain steps -/
theorem imul (W : Here G X M vm T h C S) {x y : Int32} (hd : decode M.bytes pc = .ok (.imul, 1)) (pc' : Nat) (hp : pc + 1 = pc') (k : Go G X M Q T pc' Ls (.int (x * y) :: st)) : Go G X M Q T pc Ls (.int y :: .int x :: st) := by
  subst hp; exact Go.stp (fun t r => XS.imul W.at W.x rfl (W.d hd) rfl r) k
theorem ior (W : Here G X M vm T h C S) {x y : Int32} (hd : decode M.bytes pc = .ok (.ior, 1)) (pc' : Nat) (hp : pc + 1 = pc') (k : Go G X M Q T pc' Ls (.int (x ||| y) :: st)) : Go G X M Q T pc Ls (.int y :: .int x :: st) := by
  subst hp; exact Go.stp (fun t r => XS.ior W.at W.x rfl (W.d hd) rfl r) k
theorem ishr (W : Here G X M vm T h C S) {x y : Int32} (hd : decode M.bytes pc = .ok (.ishr, 1)) (pc' : Nat) (hp : pc + 1 = pc') (k : Go G X M Q T pc' Ls (.int (x >>> (y &&& 31)) :: st)) : Go G X M Q T pc Ls (.int y :: .int x :: st) := by
  subst hp; exact Go.stp (fun t r => XS.ishr W.at W.x rfl (W.d hd) rfl r) k
theorem ishl (W : Here G X M vm T h C S) {x y : Int32} (hd : decode M.bytes pc = .ok (.ishl, 1)) (pc' : Nat) (hp : pc + 1 = pc') (k : Go G X M Q T pc' Ls (.int (x <<< (y &&& 31)) :: st)) : Go G X M Q T pc Ls (.int y :: .int x :: st) := by
  subst hp; exact Go.stp (fun t r => XS.ishl W.at W.x rfl (W.d hd) rfl r) k
theorem ladd (W : Here G X M vm T h C S) {x y : Int64} (hd : decode M.bytes pc = .ok (.ladd, 1)) (pc' : Nat) (hp : pc + 1 = pc') (k : Go G X M Q T pc' Ls (.long (x + y) :: st)) : Go G X M Q T pc Ls (.long y :: .long x :: st) := by
  subst hp; exact Go.stp (fun t r => XS.ladd W.at W.x rfl (W.d hd) rfl r) k
theorem lsub (W : Here G X M vm T h C S) {x y : Int64} (hd : decode M.bytes pc = .ok (.lsub, 1)) (pc' : Nat) (hp : pc + 1 = pc') (k : Go G X M Q T pc' Ls (.long (x - y) :: st)) : Go G X M Q T pc Ls (.long y :: .long x :: st) := by
  subst hp; exact Go.stp (fun t r => XS.lsub W.at W.x rfl (W.d hd) rfl r) k
theorem lcmp (W : Here G X M vm T h C S) {x y : Int64} (hd : decode M.bytes pc = .ok (.lcmp, 1)) (pc' : Nat) (hp : pc + 1 = pc') (k : Go G X M Q T pc' Ls (.int (XT.cmpL x y) :: st)) : Go G X M Q T pc Ls (.long y :: .long x :: st) := by
  subst hp; exact Go.stp (fun t r => XS.lcmp W.at W.x rfl (W.d hd) rfl r) k
theorem lneg (W : Here G X M vm T h C S) {x : Int64} (hd : decode M.bytes pc = .ok (.lneg, 1)) (pc' : Nat) (hp : pc + 1 = pc') (k : Go G X M Q T pc' Ls (.long (-x) :: st)) : Go G X M Q T pc Ls (.long x :: st) := by
  subst hp; exact Go.stp (fun t r => XS.lneg W.at W.x rfl (W.d hd) rfl r) k
theorem i2l (W : Here G X M vm T h C S) {x : Int32} (hd : decode M.bytes pc = .ok (.i2l, 1)) (pc' : Nat) (hp : pc + 1 = pc') (k : Go G X M Q T pc' Ls (.long x.toInt64 :: st)) : Go G X M Q T pc Ls (.int x :: st) := by
  subst hp; exact Go.stp (fun t r => XS.i2l W.at W.x rfl (W.d hd) rfl r) k
theorem l2i (W : Here G X M vm T h C S) {x : Int64} (hd : decode M.bytes pc = .ok (.l2i, 1)) (pc' : Nat) (hp : pc + 1 = pc') (k : Go G X M Q T pc' Ls (.int x.toInt32 :: st)) : Go G X M Q T pc Ls (.long x :: st) := by
  subst hp; exact Go.stp (fun t r => XS.l2i W.at W.x rfl (W.d hd) rfl r) k
theorem lushr (W : Here G X M vm T h C S) {x : Int64} {y : Int32} (hd : decode M.bytes pc = .ok (.lushr, 1)) (pc' : Nat) (hp : pc + 1 = pc') (k : Go G X M Q T pc' Ls (.long ((x.toUInt64 >>> (y &&& 0x3f).toInt64.toUInt64).toInt64) :: st)) : Go G X M Q T pc Ls (.int y :: .long x :: st) := by
  subst hp; exact Go.stp (fun t r => XS.lushr W.at W.x rfl (W.d hd) rfl r) k
theorem idiv (W : Here G X M vm T h C S) {x y : Int32} (hd : decode M.bytes pc = .ok (.idiv, 1)) (pc' : Nat) (hp : pc + 1 = pc') (hy : y ≠ 0) (k : Go G X M Q T pc' Ls (.int (x / y) :: st)) : Go G X M Q T pc Ls (.int y :: .int x :: st) := by
  subst hp; exact Go.stp (fun t r => XS.idiv W.at W.x rfl (W.d hd) rfl hy r) k
theorem lconst (W : Here G X M vm T h C S) {j : Fin 2} (hd : decode M.bytes pc = .ok (.lconst j, 1)) (pc' : Nat) (hp : pc + 1 = pc') (v : Int64) (hv : Int64.ofNat j = v) (k : Go G X M Q T pc' Ls (.long v :: st)) : Go G X M Q T pc Ls st := by
  subst hp hv; exact Go.stp (fun t r => XS.lconst W.at W.x rfl (W.d hd) r) k
theorem lloadN (W : Here G X M vm T h C S) {j : Fin 4} (hd : decode M.bytes pc = .ok (.lload_n j, 1)) (pc' : Nat) (hp : pc + 1 = pc') (v : Int64) (hl : Ls[j.val]? = some (.val (.long v))) (k : Go G X M Q T pc' Ls (.long v :: st)) : Go G X M Q T pc Ls st := by
  subst hp; exact Go.stp (fun t r => XS.lloadN W.at W.x rfl (W.d hd) hl r) k
theorem lload (W : Here G X M vm T h C S) {j : Nat} (hd : decode M.bytes pc = .ok (.lload j, 2)) (pc' : Nat) (hp : pc + 2 = pc') (v : Int64) (hl : Ls[j]? = some (.val (.long v))) (k : Go G X M Q T pc' Ls (.long v :: st)) : Go G X M Q T pc Ls st := by
  subst hp; exact Go.stp (fun t r => XS.lload W.at W.x rfl (W.d hd) hl r) k
theorem lstoreN (W : Here G X M vm T h C S) {j : Fin 4} {x : Int64} (hd : decode M.bytes pc = .ok (.lstore_n j, 1)) (pc' : Nat) (hp : pc + 1 = pc') (Ls' : Array Slot) (hl : storeLocals Ls j.val (.long x) = some Ls') (k : Go G X M Q T pc' Ls' st) : Go G X M Q T pc Ls (.long x :: st) := by
  subst hp; exact Go.stp (fun t r => XS.lstoreN W.at W.x rfl (W.d hd) rfl hl r) k
theorem lstore (W : Here G X M vm T h C S) {j : Nat} {x : Int64} (hd : decode M.bytes pc = .ok (.lstore j, 2)) (pc' : Nat) (hp : pc + 2 = pc') (Ls' : Array Slot) (hl : storeLocals Ls j (.long x) = some Ls') (k : Go G X M Q T pc' Ls' st) : Go G X M Q T pc Ls (.long x :: st) := by
  subst hp; exact Go.stp (fun t r => XS.lstore W.at W.x rfl (W.d hd) rfl hl r) k
theorem ldcI (W : Here G X M vm T h C S) {idx : Nat} {v : Int32} (w : (Jvm.Cond.constant M.y.cls idx v).before G.a0 G.Z = true) (hd : decode M.bytes pc = .ok (.ldc idx, 2)) (pc' : Nat) (hp : pc + 2 = pc') (k : Go G X M Q T pc' Ls (.int v :: st)) : Go G X M Q T pc Ls st := by
  subst hp
  obtain ⟨F', k0, locs, cells, slots, X1, e1, hS, hk, hZ, hown, -⟩ := id W
  exact Go.stp (fun t r => X1.ldcInt W.x hown (mv (s := X.s.setVm vm) hZ w) (g := mkF X.m pc Ls st) rfl (W.d hd) t r) k
theorem ldc2 (W : Here G X M vm T h C S) {idx : Nat} {v : Int64} (w : (Jvm.Cond.constantLong M.y.cls idx v).before G.a0 G.Z = true) (hd : decode M.bytes pc = .ok (.ldc2_w idx, 3)) (pc' : Nat) (hp : pc + 3 = pc') (k : Go G X M Q T pc' Ls (.long v :: st)) : Go G X M Q T pc Ls st := by
  subst hp
  obtain ⟨F', k0, locs, cells, slots, X1, e1, hS, hk, hZ, hown, -⟩ := id W
  exact Go.stp (fun t r => X1.ldc2Long W.x hown (mv (s := X.s.setVm vm) hZ w) (g := mkF X.m pc Ls st) rfl (W.d hd) t r) k
/-! ### String constants -/
theorem ldcR (W : Here G X M vm T h C S) {idx : Nat} {text : String} (w : (Jvm.Cond.stringLink M.y.cls idx text).before G.a0 G.Z = true) (wS : ∀ a ∈ Bundle.stringAtoms, a.before G.a0 G.Z = true) (hmem : (M.y.cls, idx) ∈ G.EL) {vs : List Value} {z : Int32} (ht : (∀ c ∈ text.toList, c.toNat < 256) ∧ text.toList.map (fun c => Value.int (Jvm.Lit.byteI c.toNat.toUInt16)) = vs) (hz : ¬ z < 0) (hl : z.toNatClampNeg = vs.length)
    (hd : decode M.bytes pc = .ok (.ldc idx, 2)) (pc' : Nat) (hp : pc + 2 = pc') (n : Nat) (hn : 4 * text.toList.length ≤ n) (hbig : n ≤ 536870912) (C' S' : Nat) (hc : C + 2 ≤ C') (hs : S + (n + 4) ≤ S') (hc' : C' ≤ M.R.cells) (hs' : S' ≤ M.R.slots)
    (k : ∀ (vm' : Vm) (T' : State) (h' : Heap) (a b : Addr) (kb : ClassId), Here G X M vm' T' h' C' S' → CHr G.Z G.EL vm h vm' h' → Ext h h' → Exa G.Z h' a "java/lang/String" → Fld G.Z h' a "java/lang/String" "coder" "B" (.int 0) → Fld G.Z h' a "java/lang/String" "value" "[B" (.ref b) → Arv G.Z h' b kb .byte z vs (.int 0) → (∀ x, Safe G.Z G.EL vm' h' x → x ≠ a ∧ x ≠ b) → Go G X M Q T' pc' Ls (.ref a :: st)) : Go G X M Q T pc Ls st := by
  subst hp
  obtain ⟨F', k0, locs, cells, slots, X1, e1, hS, hk, hZ, hown, hCH, hF, O', c1, s1⟩ := id W
  obtain ⟨a, T', h', k1, b, kb, X', e', E, hS', hk', hZ', ho', f1, f2, f3, f4, -, -, r1, -, r2, st'⟩ := ldcCH X1 W.x hZ hown w wS e1 hS hk F'.2.2.2.2.2.2 hmem hCH.1 ht hz hl (g := mkF X.m pc Ls st) rfl (W.d hd) hn hbig (by omega) (by omega)
  exact Go.stp (fun t r => st' t r) (k T'.vm T' h' a b kb ⟨F', k1, locs, _, _, X', e', hS', hk', hZ', ho', hCH.trans r1, hF, O'.ext E, by omega, by omega⟩ r1 E f1 f2 f3 f4 r2)
theorem ldcO (W : Here G X M vm T h C S) {idx : Nat} {text : String} (w : (Jvm.Cond.stringLink M.y.cls idx text).before G.a0 G.Z = true) (wS : ∀ a ∈ Bundle.stringAtoms, a.before G.a0 G.Z = true)
    (hd : decode M.bytes pc = .ok (.ldc idx, 2)) (pc' : Nat) (hp : pc + 2 = pc') (n : Nat) (hn : 4 * text.toList.length ≤ n) (hbig : n ≤ 536870912) (C' S' : Nat) (hc : C + 2 ≤ C') (hs : S + (n + 4) ≤ S') (hc' : C' ≤ M.R.cells) (hs' : S' ≤ M.R.slots)
    (k : ∀ (vm' : Vm) (T' : State) (h' : Heap) (a : Addr), Here G X M vm' T' h' C' S' → CHr G.Z G.EL vm h vm' h' → Ext h h' → Go G X M Q T' pc' Ls (.ref a :: st)) : Go G X M Q T pc Ls st := by
  subst hp
  obtain ⟨F', k0, locs, cells, slots, X1, e1, hS, hk, hZ, hown, hCH, hF, O', c1, s1⟩ := id W
  obtain ⟨a, T', h', k1, X', e', E, hS', hk', hZ', ho', r1, -, st'⟩ := ldcOH X1 W.x hZ hown w wS e1 hS hk F'.2.2.2.2.2.2 hCH.1 (g := mkF X.m pc Ls st) rfl (W.d hd) hn hbig (by omega) (by omega)
  exact Go.stp (fun t r => st' t r) (k T'.vm T' h' a ⟨F', k1, locs, _, _, X', e', hS', hk', hZ', ho', hCH.trans r1, hF, O'.ext E, by omega, by omega⟩ r1 E)
end Kit2
end Own
end Jvm.Pilot.@@N@@
namespace Jvm.Pilot.@@N@@
namespace Own
open Jvm Jvm.ClassFile Sem Op Lib Jvm.Free Jvm.Stand Jvm.LawKit Jvm.RoadKit
abbrev ST : String := "java/lang/String"
/-- a String that spells the chars cs, each 0 to 255 -/
def Str (Z : State) (h : Heap) (a : Addr) (cs : List Int32) : Prop := Exa Z h a ST ∧ Fld Z h a ST "coder" "B" (.int 0) ∧ (∀ c ∈ cs, ¬ c < 0 ∧ ¬ (255 : Int32) < c) ∧ cs.length ≤ 4000 ∧
  ∃ (b : Addr) (kb : ClassId), Fld Z h a ST "value" "[B" (.ref b) ∧ Arv Z h b kb .byte (Int32.ofNat cs.length) ((cs.map fun c => c.toInt8.toInt32).map Value.int) (.int 0)
theorem Str.ext {Z : State} {h h' : Heap} {a : Addr} {cs : List Int32} (F : Str Z h a cs) (E : Ext h h') : Str Z h' a cs := by
  obtain ⟨h1, h2, h3, h4, b, kb, h5, h6⟩ := F
  exact ⟨h1.ext E, h2.ext E, h3, h4, b, kb, h5.ext E, h6.ext E⟩
theorem Str.lt {Z : State} {h : Heap} {a : Addr} {cs : List Int32} (F : Str Z h a cs) : a < h.size := F.1.lt
theorem Str.exa {Z : State} {h : Heap} {a : Addr} {cs : List Int32} (F : Str Z h a cs) : Exa Z h a ST := F.1
/-- over a change of other objects, none of them a String or a byte[] -/
theorem Str.keep {Z : State} {h h' : Heap} {a : Addr} {cs : List Int32} {ws : List Addr} (F : Str Z h a cs) (K : Keep h h' ws) (ha : a ∉ ws) (hb : ∀ x ∈ ws, ∀ (cl : Cell), ¬ Arr Z h x cl .byte) : Str Z h' a cs := by
  obtain ⟨h1, h2, h3, h4, b, kb, h5, h6⟩ := F
  refine ⟨h1.keep K, h2.keep K ha, h3, h4, b, kb, h5.keep K ha, h6.keep K fun q => ?_⟩
  obtain ⟨cl, A, -⟩ := h6
  exact hb b q cl A
theorem codS {cs : List Int32} (hb : ∀ c ∈ cs, ¬ c < 0 ∧ ¬ (255 : Int32) < c) : StrChars.Road.CodA cs 0 (Int32.ofNat cs.length) ((cs.map fun c => c.toInt8.toInt32).map Value.int) :=
  Or.inl ⟨rfl, rfl, by rw [List.map_map]; rfl, fun c hc => (hb c hc).2⟩
theorem wide16 {cs : List Int32} (hb : ∀ c ∈ cs, ¬ c < 0 ∧ ¬ (255 : Int32) < c) : ∀ c ∈ cs, ¬ c < 0 ∧ ¬ (65535 : Int32) < c := fun c hc => ⟨(hb c hc).1, fun q => (hb c hc).2 (Int32.lt_trans (by decide) q)⟩
/-- the words of a String constant's load, and of the empty road of new String(char[]) -/
abbrev wordsS : List Jvm.Cond := StrChars.Road.words ++ [.initialized ST, .instantiable ST 4, .soleField ST "value", .soleField ST "coder", .stringLink ST 7 ""]
section Kit3
variable {G : Gl} {X : Rn} {M : Bo} {vm : Vm} {T : State} {h : Heap} {C S : Nat} {Q : Option Value → Heap → Prop} {pc pc' : Nat} {Ls Ls' : Array Slot} {st : List Value}
theorem sAtoms (hw : ∀ d ∈ wordsS, d.before G.a0 G.Z = true) : ∀ a ∈ Bundle.stringAtoms, a.before G.a0 G.Z = true := fun d hd => hw d ((by decide +kernel : ∀ d ∈ Bundle.stringAtoms, d ∈ wordsS) d hd)
theorem w1 (hw : ∀ d ∈ wordsS, d.before G.a0 G.Z = true) (d : Jvm.Cond) (hd : d ∈ wordsS := by decide +kernel) : d.before G.a0 G.Z = true := hw d hd
abbrev bNew4 : Bo := (StrChars.New4.yN, StrChars.New4.yB, 6, none, ({ frames := 1, cells := 4, slots := 8, locals := 12 } : Room))
abbrev bNew1 : Bo := (StrChars.New1.yN, StrChars.New1.yB, 2, none, ({ frames := 2, cells := 4, slots := 8, locals := 29 } : Room))
theorem e4_8 : decode StrChars.New4.yB 8 = .ok (.aload_n 0, 1) := by decide +kernel
theorem e4_9 : decode StrChars.New4.yB 9 = .ok (.ldc 7, 2) := by decide +kernel
theorem e4_11 : decode StrChars.New4.yB 11 = .ok (.getfield 9, 3) := by decide +kernel
theorem e4_14 : decode StrChars.New4.yB 14 = .ok (.putfield 9, 3) := by decide +kernel
theorem e4_17 : decode StrChars.New4.yB 17 = .ok (.aload_n 0, 1) := by decide +kernel
theorem e4_18 : decode StrChars.New4.yB 18 = .ok (.ldc 7, 2) := by decide +kernel
theorem e4_20 : decode StrChars.New4.yB 20 = .ok (.getfield 15, 3) := by decide +kernel
theorem e4_23 : decode StrChars.New4.yB 23 = .ok (.putfield 15, 3) := by decide +kernel
theorem e4_26 : decode StrChars.New4.yB 26 = .ok (.return_, 1) := by decide +kernel
theorem pnST : plainName "java/lang/String" = true := by first | (simp [plainName, overriddenIn]; done) | decide +kernel
theorem pd4 : parseMethodDescriptor "([CIILjava/lang/Void;)V" = some ⟨[.array .char, .int, .int, .object "java/lang/Void"], none⟩ := by decide +kernel
theorem pd1 : parseMethodDescriptor "([C)V" = some ⟨[.array .char], none⟩ := by decide +kernel
theorem ef4 (m : MethodId) (x b : Addr) : entryFrame m #[.ref x, .ref b, .int 0, .int 0, .null] 6 = mkF m 0 #[.val (.ref x), .val (.ref b), .val (.int 0), .val (.int 0), .val .null, .unset] [] := by first | (simp [entryFrame, mkF, argsToLocals, Value.category]; done) | rfl
theorem ef1 (m : MethodId) (x b : Addr) : entryFrame m #[.ref x, .ref b] 2 = mkF m 0 #[.val (.ref x), .val (.ref b)] [] := by first | (simp [entryFrame, mkF, argsToLocals, Value.category]; done) | rfl
set_option maxRecDepth 65536 in
set_option maxHeartbeats 4000000 in
theorem con_new4e (hw : ∀ d ∈ wordsS, d.before G.a0 G.Z = true) (hEL : EW G.Z G.a0 G.EL) (hmem : (ST, 7) ∈ G.EL) {x b : Addr} {v0 c0 : Value} (hO : Old G.Z G.n0 h) (hx0 : G.n0 ≤ x) (E : Exa G.Z h x ST) (V : Fld G.Z h x ST "value" "[B" v0) (Cd : Fld G.Z h x ST "coder" "B" c0) :
    Con G [] bNew4 #[.ref x, .ref b, .int 0, .int 0, .null] h [x] (fun v h' => v = none ∧ Keep h h' [x] ∧ Str G.Z h' x []) := by
  refine Con.intro (plainFor_of_name pnST) hO hEL _ (fun m => ef4 m x b) ?_
  intro X T W sf
  have sx := sf x (List.mem_singleton.mpr rfl)
  have wS := sAtoms hw
  refine aloadN W StrChars.New4.d0 1 rfl _ rfl rfl ?_
  refine initO W (w1 hw (.methodLink ST 1 Lib.objectInit)) (w1 hw (.instanceMethod Lib.objectInit)) (w1 hw (.code Lib.objectInit ⟨#[0xb1]⟩ 1 none)) rfl StrChars.New4.d1 4 rfl (by decide) (by decide) ?_
  intro T1 W1
  refine iloadN W1 StrChars.New4.d4 5 rfl _ rfl ?_
  refine ifNo W1 StrChars.New4.d5 8 (by decide) rfl ?_
  refine aloadN W1 e4_8 9 rfl _ rfl rfl ?_
  refine ldcR W1 (w1 hw (.stringLink ST 7 "")) wS hmem (vs := []) (z := 0) ⟨by decide, by decide⟩ (by decide) (by decide) e4_9 11 rfl 0 (by decide) (by decide) 2 4 (by decide) (by decide) (by decide) (by decide) ?_
  intro vm2 T2 h2 a2 b2 kb2 W2 R2 E2 fa fc fv fb hne
  have sx2 : Safe G.Z G.EL vm2 h2 x := R2.safe E.lt sx
  have ne2 := hne x sx2
  refine getF W2 (w1 hw (.fieldLink ST 9 ST "value" "[B")) Via.refl fv e4_11 14 rfl ?_
  intro T3 W3
  refine putF W3 (w1 hw (.fieldLink ST 9 ST "value" "[B")) Via.refl (V.ext E2) (E.ext E2) (Or.inr ⟨w1 hw (.laysFinal ST ST "value" "[B"), rfl, rfl⟩) (w1 hw (.instantiable ST 4)) (ty := .array .byte) (by decide) rfl rfl hx0 sx2 e4_14 17 rfl ?_
  intro T4 h4 W4 Wr4 k4
  refine aloadN W4 e4_17 18 rfl _ rfl rfl ?_
  refine ldcR W4 (w1 hw (.stringLink ST 7 "")) wS hmem (vs := []) (z := 0) ⟨by decide, by decide⟩ (by decide) (by decide) e4_18 20 rfl 0 (by decide) (by decide) 4 8 (by decide) (by decide) (by decide) (by decide) ?_
  intro vm5 T5 h5 a5 b5 kb5 W5 R5 E5 ga gc gv gb hne5
  have x4 : x < h4.size := by rw [Wr4.size]; exact (E.ext E2).lt
  have sx4 : Safe G.Z G.EL vm2 h4 x := k4 x sx2
  have sx5 : Safe G.Z G.EL vm5 h5 x := R5.safe x4 sx4
  refine getF W5 (w1 hw (.fieldLink ST 15 ST "coder" "B")) Via.refl gc e4_20 23 rfl ?_
  intro T6 W6
  have Ex5 : Exa G.Z h5 x ST := ((E.ext E2).wr Wr4).ext E5
  have sne : RoadKit.slotOf G.Z ST "coder" "B" ≠ RoadKit.slotOf G.Z ST "value" "[B" := slot_ne (Or.inr (w1 hw (.laysFinal ST ST "coder" "B"))) (Or.inr (w1 hw (.laysFinal ST ST "value" "[B"))) (by decide) (t := .byte) (t' := .array .byte) (by decide) (by decide)
  have Cd5 : Fld G.Z h5 x ST "coder" "B" c0 := ((Cd.ext E2).other Wr4 (Or.inr sne)).ext E5
  have V5 : Fld G.Z h5 x ST "value" "[B" (.ref b2) := ((V.ext E2).same Wr4).ext E5
  have B5 : Arv G.Z h5 b2 kb2 .byte 0 [] (.int 0) := (fb.other Wr4 (Ne.symm ne2.2)).ext E5
  refine putF W6 (w1 hw (.fieldLink ST 15 ST "coder" "B")) Via.refl Cd5 Ex5 (Or.inr ⟨w1 hw (.laysFinal ST ST "coder" "B"), rfl, rfl⟩) (w1 hw (.instantiable ST 4)) (ty := .byte) (v' := .int 0) (by decide) rfl rfl hx0 sx5 e4_23 26 rfl ?_
  intro T7 h7 W7 Wr7 _
  refine retV W7 (by decide) (by decide) rfl e4_26 ⟨rfl, ?_, ?_⟩
  · exact ((((Keep.refl h [x]).ext E2).wr Wr4 (Or.inl (List.mem_singleton.mpr rfl))).ext E5).wr Wr7 (Or.inl (List.mem_singleton.mpr rfl))
  · have nb : b2 ≠ x := Ne.symm ne2.2
    exact ⟨Ex5.wr Wr7, Cd5.same Wr7, by simp, by simp, b2, kb2, V5.other Wr7 (Or.inr (Ne.symm sne)), B5.other Wr7 nb⟩
set_option maxRecDepth 65536 in
set_option maxHeartbeats 4000000 in
theorem con_new1e (hw : ∀ d ∈ wordsS, d.before G.a0 G.Z = true) (hEL : EW G.Z G.a0 G.EL) (hmem : (ST, 7) ∈ G.EL) {x b : Addr} {kC : ClassId} {v0 c0 dv : Value} {vs : List Value} (hO : Old G.Z G.n0 h) (hx0 : G.n0 ≤ x) (E : Exa G.Z h x ST) (V : Fld G.Z h x ST "value" "[B" v0) (Cd : Fld G.Z h x ST "coder" "B" c0) (A : Arv G.Z h b kC .char 0 vs dv) :
    Con G [] bNew1 #[.ref x, .ref b] h [x] (fun v h' => v = none ∧ Keep h h' [x] ∧ Str G.Z h' x []) := by
  refine Con.intro (plainFor_of_name pnST) hO hEL _ (fun m => ef1 m x b) ?_
  intro X T W sf
  have sx := sf x (List.mem_singleton.mpr rfl)
  refine aloadN W StrChars.New1.d0 1 rfl _ rfl rfl ?_
  refine aloadN W StrChars.New1.d1 2 rfl _ rfl rfl ?_
  refine iconst W StrChars.New1.d2 3 rfl 0 rfl ?_
  refine aloadN W StrChars.New1.d3 4 rfl _ rfl rfl ?_
  refine arrlen W A StrChars.New1.d4 5 rfl ?_
  refine aconstNull W StrChars.New1.d5 6 rfl ?_
  refine callX W (y := StrChars.New4.yN) rfl (w1 hw (.methodLink ST 27 StrChars.New4.yN)) (w1 hw (.instanceMethod StrChars.New4.yN)) (w1 hw (.code StrChars.New4.yN StrChars.New4.yB 6 none)) (by decide) (argsL := [.ref b, .int 0, .int 0, .null]) (rest := [])
    (Con.pay (con_new4e hw hEL hmem hO hx0 E V Cd) W (w1 hw (.code StrChars.New4.yN StrChars.New4.yB 6 none)) (w1 hw (.initialized ST)) (len := 3) (wd := 0) (by decide) (by decide) (fun y hy => by cases List.mem_singleton.mp hy; exact ⟨E.lt, sx⟩)) rfl (lenOf pd4 rfl) rfl (by decide) StrChars.New1.d6 9 rfl 4 8 (by decide) (by decide) (by decide) (by decide) ?_
  intro vm1 T1 h1 v W1 R1 hq
  obtain ⟨rfl, K, F⟩ := hq
  exact retV W1 (by decide) (by decide) rfl StrChars.New1.d9 ⟨rfl, K, F⟩
/-- **new String(char[]) AT ITS CALL**: x the fresh String, b the char[] that holds cs -/
theorem payStr (hw : ∀ d ∈ wordsS, d.before G.a0 G.Z = true) (hEL : EW G.Z G.a0 G.EL) (hmem : (ST, 7) ∈ G.EL) (W : Here G X M vm T h C S) {x b : Addr} {kC : ClassId} {v0 c0 dv : Value} {cs : List Int32} {z cz : Int32} (hx0 : G.n0 ≤ x) (sx : Safe G.Z G.EL vm h x) (E : Exa G.Z h x ST) (V : Fld G.Z h x ST "value" "[B" v0) (Cd : Fld G.Z h x ST "coder" "B" c0)
    (A : Arv G.Z h b kC .char z (cs.map Value.int) dv) (hz : z = Int32.ofNat cs.length) (hcs : ∀ c ∈ cs, ¬ c < 0 ∧ ¬ (255 : Int32) < c) (hl : cs.length ≤ 4000) (hS : Sta G.Z G.Z.heap ST "COMPACT_STRINGS" "Z" (.int cz)) (hcz : ¬ cz = 0) {len wd : Nat} (hf : 4 ≤ M.R.frames) (hlo : wd + 65 ≤ M.R.locals) :
    Pay G X M vm h StrChars.New1.yN len wd #[.ref x, .ref b] 4 (8 + cs.length) (fun v h' => v = none ∧ Keep h h' [x] ∧ Str G.Z h' x cs) := by
  have hO := W.old
  subst hz
  match cs, A, hcs, hl with
  | [], A, _, _ =>
    exact Con.pay (con_new1e hw hEL hmem hO hx0 E V Cd A) W (w1 hw (.code StrChars.New1.yN StrChars.New1.yB 2 none)) (w1 hw (.initialized ST)) (by show 2 + 1 ≤ _; omega) (by show wd + (2 + 11) + 29 ≤ _; omega) (fun y hy => by cases List.mem_singleton.mp hy; exact ⟨E.lt, sx⟩)
  | c :: cs, A, hcs, hl =>
    have B := StrChars.Road.backV (p := X.p) (l := G.l) (e := X.e) (R := M.R) (s := X.s.setVm vm) (args := X.args) (below := X.below) (len := len) (W := wd) (Z := G.Z) (a0 := G.a0) W.wz (fun d hd => hw d (List.mem_append_left _ hd)) (kI := 4) (w1 hw (.instantiable ST 4)) hx0 W.n0 E V Cd A (W.sta hS) hcz (n := (c :: cs).length) rfl rfl (by simp) hl hcs rfl hf hlo
    have P := payB (Q' := fun v h' => v = none ∧ Keep h h' [x] ∧ Str G.Z h' x (c :: cs)) B W (fun v h' L q => by
      obtain ⟨q1, q2, q3, q4, q5, t, kb, q6, q7, q8, q9, q10⟩ := q
      have ks : ∀ y ∈ [x], Safe G.Z G.EL vm h y := fun y hy => by cases List.mem_singleton.mp hy; exact sx
      exact ⟨⟨q1, q3, q4, q5, hcs, hl, t, kb, q9, q10⟩, q2, hO.keep q3 (fun y hy => by cases List.mem_singleton.mp hy; exact hx0), CHr.keep q3 ks W.ch⟩)
    intro m meth c' A' g ig mk a X1 hg hsize hdg hW hn hp
    obtain ⟨v, B', r1, r2, r3, ⟨L, r4, r5, r6, r7, r8⟩, r9⟩ := P m meth c' A' g ig mk a X1 hg hsize hdg hW hn ⟨hp.1, hp.2.1, by have := hp.2.2.1; omega, by have := hp.2.2.2; omega⟩
    exact ⟨v, B', r1, r2, r3, ⟨L, r4, r5, by omega, by omega, r8⟩, r9⟩
end Kit3
/-! ### chars -/
def chr (x : Int32) : Int32 := x.toUInt32.toUInt16.toUInt32.toInt32
def us (x k : Int32) : Int32 := (x.toUInt32 >>> (k &&& 31).toUInt32).toInt32
/-- the low eight bits, as a char -/
def lo (x : Int32) : Int32 := chr (x &&& 255)
theorem chr_id {x : Int32} (h0 : 0 ≤ x.toInt) (h1 : x.toInt < 65536) : chr x = x := Int32.toInt_inj.mp (by
  have q := c_i2c x
  unfold chr
  omega)
theorem and255 (x : Int32) : 0 ≤ (x &&& 255).toInt ∧ (x &&& 255).toInt ≤ 255 := c_and x 255 (by decide)
theorem lo_eq (x : Int32) : lo x = x &&& 255 := chr_id (and255 x).1 (by have := (and255 x).2; omega)
theorem lo_rng (x : Int32) : ¬ lo x < 0 ∧ ¬ (255 : Int32) < lo x := by
  rw [lo_eq, Int32.lt_iff_toInt_lt, Int32.lt_iff_toInt_lt]
  have q := and255 x
  have e1 : (0 : Int32).toInt = 0 := by decide
  have e2 : (255 : Int32).toInt = 255 := by decide
  rw [e1, e2]; omega
theorem nar_of {c : Int32} (q : ¬ c < 0 ∧ ¬ (255 : Int32) < c) : nar .char c = c := by
  rw [Int32.lt_iff_toInt_lt, Int32.lt_iff_toInt_lt] at q
  have e1 : (0 : Int32).toInt = 0 := by decide
  have e2 : (255 : Int32).toInt = 255 := by decide
  rw [e1, e2] at q
  show chr c = c
  exact chr_id (by omega) (by omega)
theorem nar_b8 (x : Int32) : nar .byte x.toInt8.toInt32 = x.toInt8.toInt32 := by
  show (x.toInt8.toInt32).toInt8.toInt32 = x.toInt8.toInt32
  simp
theorem nar_lo (x : Int32) : nar .char (lo x) = lo x := by
  show chr (lo x) = lo x
  rw [lo_eq]; exact chr_id (and255 x).1 (by have := (and255 x).2; omega)
end Own
end Jvm.Pilot.@@N@@
namespace Jvm.Pilot.@@N@@
namespace Own
open Jvm Jvm.ClassFile Sem Op Lib Jvm.Free Jvm.Stand Jvm.LawKit Jvm.RoadKit
theorem payEq {G : Gl} {X : Rn} {M : Bo} {vm : Vm} {T : State} {h : Heap} {C S : Nat} {cs ds : List Int32} {x y : Addr} {cz : Int32} (hwE : ∀ d ∈ StrChars.Road.wordsEq, d.before G.a0 G.Z = true) {kI : Nat} (wi : (Jvm.Cond.instantiable ST kI).before G.a0 G.Z = true) (W : Here G X M vm T h C S) (F : Str G.Z h x cs) (F' : Str G.Z h y ds)
    (hS : Sta G.Z G.Z.heap ST "COMPACT_STRINGS" "Z" (.int cz)) (hcz : ¬ cz = 0) {len wd : Nat} (hf : 2 ≤ M.R.frames) (hlo : wd + 28 ≤ M.R.locals) :
    Pay G X M vm h ⟨"java/lang/String", "equals", "(Ljava/lang/Object;)Z"⟩ len wd #[.ref x, .ref y] 0 0 (fun v h' => ((v = some (.int 1) ∧ cs = ds) ∨ (v = some (.int 0) ∧ ¬ cs = ds)) ∧ h' = h) := by
  obtain ⟨h1, h2, h3, h4, b, kb, h5, h6⟩ := F
  obtain ⟨g1, g2, g3, g4, b', kb', g5, g6⟩ := F'
  exact payB (Qy := fun v h' L => ((v = some (.int 1) ∧ cs = ds) ∨ (v = some (.int 0) ∧ ¬ cs = ds)) ∧ L = [] ∧ h' = h) (StrChars.Road.eqW (p := X.p) (l := G.l) (e := X.e) (R := M.R) (s := X.s.setVm vm) (args := X.args) (below := X.below) (len := len) (W := wd) W.wz hwE wi h1 h5 h2 h6 (codS h3) (wide16 h3) h4 g1 g5 g2 g6 (codS g3) (wide16 g3) g4 (W.sta hS) hcz hf hlo) W (fun v h' L q => by
    obtain ⟨q1, rfl, q3⟩ := q
    subst q3
    exact ⟨⟨q1, rfl⟩, Fr.nil _, W.old, CHr.refl W.ch⟩)
end Own
end Jvm.Pilot.@@N@@
namespace Jvm.Pilot.@@N@@
namespace Own
open Jvm Jvm.ClassFile Sem Op Lib Jvm.Free Jvm.Stand Jvm.LawKit Jvm.RoadKit
/-- a case's word 'the field of that object is this int', as a fact on the start's heap -/
theorem fldOf {s : State} {args : Array Value} {t : Term} {r : Addr} {cl n d : String} {k : Int32} (ev : t.eval args s none [] s = some (.ref r)) (m : (Jvm.Cond.eq (.field t cl n d) (.int k)).value args s none s [] = some true) : Fld s s.heap r cl n d (.int k) := by
  have e := Cond.eq_int (Cond.before_iff.mpr m) rfl
  rw [fld_at ev] at e
  exact Fld.start e
end Own
end Jvm.Pilot.@@N@@
namespace Jvm.Pilot.@@N@@
namespace Own
open Jvm Jvm.ClassFile Sem Op Lib Jvm.Free Jvm.Stand Jvm.LawKit Jvm.RoadKit
section Enum
variable {G : Gl} {X : Rn} {M : Bo} {vm : Vm} {T : State} {h : Heap} {C S : Nat} {Q : Option Value → Heap → Prop} {pc pc' : Nat} {Ls Ls' : Array Slot} {st : List Value}
theorem aaload (W : Here G X M vm T h C S) {a : Addr} {kA : ClassId} {ty : FieldType} {z j : Int32} {vs : List Value} {dv : Value} (A : Arv G.Z h a kA ty z vs dv) (hty : ty.isReference = true) (hj0 : ¬ j < 0 ∧ j < z) (v : Value) (hv : vs.getD j.toNatClampNeg dv = v) (hd : decode M.bytes pc = .ok (.aaload, 1)) (pc' : Nat) (hp : pc + 1 = pc') (k : Go G X M Q T pc' Ls (v :: st)) : Go G X M Q T pc Ls (.int j :: .ref a :: st) := by
  subst hp
  obtain ⟨F', k0, locs, cells, slots, X1, e1, hS, hk, hZ, hown, hCH, hF, O', c1, s1⟩ := id W
  obtain ⟨cl, A1, q, Sz, Nz, H, Gz⟩ := A
  exact Go.stp (fun t r => X1.aaload W.x (by rw [e1]; exact A1.1) (State.isArrayOf_alike (T := X.s.setVm vm) hZ.alike A1.2.1) hty A1.2.2 (inb_of Sz hj0) (H.at (inb_of Sz hj0) hv) (g := mkF X.m pc Ls (.int j :: .ref a :: st)) rfl rfl (W.d hd) t r) k
theorem cloneV (W : Here G X M vm T h C S) {ad : String} {idx : Nat} {a : Addr} {kA : ClassId} {ty : FieldType} {z : Int32} {vs : List Value} {dv : Value} (w1 : (Jvm.Cond.methodLink M.y.cls idx ⟨ad, "clone", "()Ljava/lang/Object;"⟩).before G.a0 G.Z = true) (w2 : (Jvm.Cond.sameMethod ad "java/lang/Object" "clone" "()Ljava/lang/Object;").before G.a0 G.Z = true) (w3 : (Jvm.Cond.native ⟨"java/lang/Object", "clone", "()Ljava/lang/Object;"⟩).before G.a0 G.Z = true)
    (w4 : (Jvm.Cond.instanceMethod ⟨"java/lang/Object", "clone", "()Ljava/lang/Object;"⟩).before G.a0 G.Z = true) (w5 : (Jvm.Cond.selects ad ⟨ad, "clone", "()Ljava/lang/Object;"⟩ ⟨"java/lang/Object", "clone", "()Ljava/lang/Object;"⟩).before G.a0 G.Z = true) (w6 : (Jvm.Cond.castable ad "java/lang/Cloneable").before G.a0 G.Z = true)
    (A : Arv G.Z h a kA ty z vs dv) (E : Exa G.Z h a ad) (hsz : Ls.size = M.maxL) (hd : decode M.bytes pc = .ok (.invokevirtual idx, 3)) (pc' : Nat) (hp : pc + 3 = pc') (hf : 1 ≤ M.R.frames) (hl : (st.map fun v => v.category).sum + 14 ≤ M.R.locals) (cap : Nat) (hcap : z.toNatClampNeg ≤ cap) (C' S' : Nat) (hc : C + 1 ≤ C') (hs : S + cap ≤ S') (hc' : C' ≤ M.R.cells) (hs' : S' ≤ M.R.slots)
    (k : ∀ (T' : State) (h' : Heap) (b : Addr), b = h.size → Here G X M vm T' h' C' S' → Ext h h' → Arv G.Z h' b kA ty z vs dv → Exa G.Z h' b ad → Go G X M Q T' pc' Ls (.ref b :: st)) : Go G X M Q T pc Ls (.ref a :: st) := by
  subst hp
  obtain ⟨F', k0, locs, cells, slots, X1, e1, hS, hk, hZ, hown, hCH, hF, O', c1, s1⟩ := id W
  obtain ⟨T', h', X', e', E', A', Ex', st'⟩ := RoadKit.cloneH X1 W.x hZ hown w1 w2 w3 w4 w5 w6 e1 A.arh E (g := mkF X.m pc Ls (.ref a :: st)) rfl (hsz.trans F'.2.2.1.symm) rfl (W.d hd) hf (W := (st.map fun v => v.category).sum) (cap := cap) (by show 2 * 0 + _ ≤ _; omega) hl hcap (by omega) (by omega)
  exact Go.stp (fun t r => st' t r) (k T' h' h.size rfl (Here.ext W hS hk hown hCH hF X' e' E' (by omega) (by omega)) E' A' Ex')
end Enum
/-! ### a case's words on its start: arrays and Strings -/
section Start
variable {s : State} {args : Array Value} {t : Term} {r : Addr}
theorem eqRef {a b : Term} {r : Addr} (m : (Jvm.Cond.eq a b).value args s none s [] = some true) (ev : b.eval args s none [] s = some (.ref r)) : a.eval args s none [] s = some (.ref r) := by
  simp only [Cond.value, ev] at m
  cases ha : a.eval args s none [] s with
  | none => simp [ha] at m
  | some x => cases x <;> simp [ha] at m ⊢ <;> exact m
theorem eqI {a : Term} {k : Int32} (m : (Jvm.Cond.eq a (.int k)).value args s none s [] = some true) : a.eval args s none [] s = some (.int k) := Cond.eq_int (Cond.before_iff.mpr m) rfl
theorem hasL_of {cl : Cell} : ∀ (vs : List Value) (i : Nat), (∀ j (hj : j < vs.length), cl.slots[i + j]? = some vs[j]) → HasL cl i vs
  | [], _, _ => trivial
  | v :: vs, i, q => ⟨q 0 (by simp), hasL_of vs (i + 1) fun j hj => by
      have z := q (j + 1) (by simp; omega)
      rw [show i + 1 + j = i + (j + 1) from by omega]
      simpa using z⟩
theorem arvStart (hf : Fit s) {ty : FieldType} {z : Int32} {vs : List Value} {dv : Value} (ev : t.eval args s none [] s = some (.ref r)) (ha : (Jvm.Cond.arrayOf t ty).value args s none s [] = some true) (hl : (Jvm.Cond.eq (.length t) (.int z)).value args s none s [] = some true) (hz : ¬ z < 0) (hn : z.toNatClampNeg = vs.length)
    (hel : ∀ i (hi : i < vs.length), (Term.elem t (.int (Int32.ofNat i))).eval args s none [] s = some vs[i]) : ∃ k, Arv s s.heap r k ty z vs dv := by
  obtain ⟨cl, A⟩ := Arr.start ev ha
  have e := eqI hl
  obtain ⟨sd, SA, hev, harrAt, -⟩ := Term.length_spec e
  have h31 := SBG.length_lt hev harrAt e
  cases ev.symm.trans hev
  have hcl : SA = cl := by
    have q := Arr.fin (U := s) (Vm.Alike.refl _) A
    exact Option.some.inj (harrAt.symm.trans q)
  subst hcl
  have e2 := len_f (o := none) (idx := []) ev harrAt h31
  have ez : SA.slots.size.toInt32 = z := by
    have q := e2.symm.trans e
    simpa using q
  refine ⟨SA.cls, Arv.start hf A h31 ez hz hn (hasL_of vs 0 fun j hj => ?_)⟩
  have q := elem_in (hel j hj) ev rfl A.1
  have z2 := q.2
  rw [show (Int32.ofNat j).toNatClampNeg = j from by
    have := Int32.toInt_ofNat_small (n := j) (by have := back32 hz; omega)
    simp [Int32.toNatClampNeg, this]] at z2
  rw [Nat.zero_add]; exact z2
end Start
end Own
end Jvm.Pilot.@@N@@
namespace Jvm.Pilot.@@N@@
namespace Own
open Jvm Jvm.ClassFile Sem Op Lib Jvm.Free Jvm.Stand Jvm.LawKit Jvm.RoadKit
/-- 0 to 255 -/
def Rg (c : Int32) : Prop := ¬ c < 0 ∧ ¬ (255 : Int32) < c
/-- a char[] of n chars, each 0 to 255, whichever -/
def Chs (Z : State) (h : Heap) (a : Addr) (n : Int32) : Prop := ∃ (cs : List Int32) (kA : ClassId), cs.length = n.toNatClampNeg ∧ ¬ n < 0 ∧ (∀ c ∈ cs, Rg c) ∧ Arv Z h a kA .char n (cs.map Value.int) (.int 0)
theorem Chs.ext {Z : State} {h h' : Heap} {a : Addr} {n : Int32} (F : Chs Z h a n) (E : Ext h h') : Chs Z h' a n := by
  obtain ⟨cs, kA, q1, q2, q3, q4⟩ := F
  exact ⟨cs, kA, q1, q2, q3, q4.ext E⟩
theorem Chs.lt {Z : State} {h : Heap} {a : Addr} {n : Int32} (F : Chs Z h a n) : a < h.size := by obtain ⟨cs, kA, q1, q2, q3, q4⟩ := F; exact q4.lt
theorem Chs.other {Z : State} {h h' : Heap} {a b : Addr} {n : Int32} {sl : Nat} {v : Value} (F : Chs Z h b n) (W : Wr h h' a sl v) (q : b ≠ a) : Chs Z h' b n := by
  obtain ⟨cs, kA, q1, q2, q3, q4⟩ := F
  exact ⟨cs, kA, q1, q2, q3, q4.other W q⟩
theorem Chs.keep {Z : State} {h h' : Heap} {a : Addr} {n : Int32} {ws : List Addr} (F : Chs Z h a n) (K : Keep h h' ws) (q : a ∉ ws) : Chs Z h' a n := by
  obtain ⟨cs, kA, q1, q2, q3, q4⟩ := F
  exact ⟨cs, kA, q1, q2, q3, q4.keep K q⟩
theorem Chs.noByte {Z : State} {h : Heap} {a : Addr} {n : Int32} (F : Chs Z h a n) (cl : Cell) : ¬ Arr Z h a cl .byte := fun B => by
  obtain ⟨cs, kA, q1, q2, q3, c, A, -⟩ := F
  cases A.1.symm.trans B.1
  obtain ⟨-, k1, a1, c1, a2⟩ := A.2.1
  obtain ⟨-, k2, b1, c2, b2⟩ := B.2.1
  cases a1.symm.trans b1
  rw [a2] at b2; cases b2
theorem rg0 : Rg 0 := ⟨by decide, by decide⟩
theorem Chs.new {Z : State} {h : Heap} {a : Addr} {kA : ClassId} {n : Int32} {cap : Nat} (A : Arv Z h a kA .char n (List.replicate cap (.int 0)) (.int 0)) (hn : ¬ n < 0) (hc : n.toNatClampNeg = cap) : Chs Z h a n :=
  ⟨List.replicate cap 0, kA, by simp [hc], hn, fun c hc => by rw [(List.mem_replicate.mp hc).2]; exact rg0, by rw [List.map_replicate]; exact A⟩
section Kit
variable {G : Gl} {X : Rn} {M : Bo} {vm : Vm} {T : State} {h : Heap} {C S : Nat} {Q : Option Value → Heap → Prop} {pc pc' : Nat} {Ls Ls' : Array Slot} {st : List Value}
theorem castoreC (W : Here G X M vm T h C S) {a : Addr} {n j x : Int32} (A : Chs G.Z h a n) (hj0 : ¬ j < 0 ∧ j < n) (ha : G.n0 ≤ a) (hx : Rg x) (hd : decode M.bytes pc = .ok (.castore, 1)) (pc' : Nat) (hp : pc + 1 = pc')
    (k : ∀ (T' : State) (h' : Heap), Here G X M vm T' h' C S → Wr h h' a j.toNatClampNeg (.int x) → Chs G.Z h' a n → (∀ y, Safe G.Z G.EL vm h y → Safe G.Z G.EL vm h' y) → Go G X M Q T' pc' Ls st) : Go G X M Q T pc Ls (.int x :: .int j :: .ref a :: st) := by
  obtain ⟨cs, kA, q1, q2, q3, q4⟩ := A
  have hi : j.toNatClampNeg < (cs.map Value.int).length := by
    rw [List.length_map, q1]
    have b1 := nat_of hj0.1
    have b2 := nat_of q2
    have := hj0.2
    rw [Int32.lt_iff_toInt_lt] at this
    omega
  refine castore W q4 j.toNatClampNeg rfl hj0 hi ha (x' := x) (nar_of hx) hd pc' hp ?_
  intro T' h' W' Wq A' kk
  refine k T' h' W' Wq ⟨cs.set j.toNatClampNeg x, kA, by simp [q1], q2, fun c hc => ?_, by rw [List.map_set]; exact A'⟩ kk
  rcases List.mem_or_eq_of_mem_set hc with z | rfl
  · exact q3 c z
  · exact hx
theorem caloadC (W : Here G X M vm T h C S) {a : Addr} {n j : Int32} (A : Chs G.Z h a n) (hj0 : ¬ j < 0 ∧ j < n) (hd : decode M.bytes pc = .ok (.caload, 1)) (pc' : Nat) (hp : pc + 1 = pc') (k : ∀ c : Int32, Rg c → Go G X M Q T pc' Ls (.int c :: st)) : Go G X M Q T pc Ls (.int j :: .ref a :: st) := by
  obtain ⟨cs, kA, q1, q2, q3, q4⟩ := A
  have hi : j.toNatClampNeg < cs.length := by
    rw [q1]
    have b1 := nat_of hj0.1
    have b2 := nat_of q2
    have := hj0.2
    rw [Int32.lt_iff_toInt_lt] at this
    omega
  refine caload W q4 hj0 (.int (cs[j.toNatClampNeg])) ?_ hd pc' hp (k _ (q3 _ (List.getElem_mem _)))
  simp [List.getD_eq_getElem?_getD, hi]
theorem arrlenC (W : Here G X M vm T h C S) {a : Addr} {n : Int32} (A : Chs G.Z h a n) (hd : decode M.bytes pc = .ok (.arraylength, 1)) (pc' : Nat) (hp : pc + 1 = pc') (k : Go G X M Q T pc' Ls (.int n :: st)) : Go G X M Q T pc Ls (.ref a :: st) := by
  obtain ⟨cs, kA, q1, q2, q3, q4⟩ := A
  exact arrlen W q4 hd pc' hp k
/-- a String of chars 0 to 255, whichever -/
theorem payStrC (hw : ∀ d ∈ wordsS, d.before G.a0 G.Z = true) (hEL : EW G.Z G.a0 G.EL) (hmem : (ST, 7) ∈ G.EL) (W : Here G X M vm T h C S) {x b : Addr} {v0 c0 : Value} {n cz : Int32} (hx0 : G.n0 ≤ x) (sx : Safe G.Z G.EL vm h x) (E : Exa G.Z h x ST) (V : Fld G.Z h x ST "value" "[B" v0) (Cd : Fld G.Z h x ST "coder" "B" c0)
    (A : Chs G.Z h b n) (cap : Nat) (hcap : n.toNatClampNeg ≤ cap) (hcap4 : cap ≤ 4000) (hS : Sta G.Z G.Z.heap ST "COMPACT_STRINGS" "Z" (.int cz)) (hcz : ¬ cz = 0) {len wd : Nat} (hf : 4 ≤ M.R.frames) (hlo : wd + 65 ≤ M.R.locals) :
    Pay G X M vm h StrChars.New1.yN len wd #[.ref x, .ref b] 4 (8 + cap) (fun v h' => v = none ∧ Keep h h' [x] ∧ ∃ cs : List Int32, cs.length = n.toNatClampNeg ∧ Str G.Z h' x cs) := by
  obtain ⟨cs, kA, q1, q2, q3, q4⟩ := A
  have hn : n = Int32.ofNat cs.length := by rw [q1]; exact (back32 q2).1.symm
  have P := payStr hw hEL hmem W (len := len) (wd := wd) hx0 sx E V Cd q4 hn q3 (by omega) hS hcz hf hlo
  intro m meth c' A' g ig mk a X1 hg hsize hdg hW hn' hp
  obtain ⟨v, B', r1, r2, r3, ⟨L, r4, r5, r6, r7, r8⟩, r9⟩ := P m meth c' A' g ig mk a X1 hg hsize hdg hW hn' ⟨hp.1, hp.2.1, hp.2.2.1, by have := hp.2.2.2; omega⟩
  exact ⟨v, B', r1, r2, r3, ⟨L, ⟨⟨r4.1.1, r4.1.2.1, cs, q1, r4.1.2.2⟩, r4.2⟩, r5, by omega, by omega, r8⟩, r9⟩
end Kit
end Own
end Jvm.Pilot.@@N@@
namespace Jvm.Pilot.@@N@@
open Jvm Jvm.ClassFile Sem Op Lib Jvm.Free Jvm.Stand Jvm.LawKit Jvm.RoadKit Bundle Jvm.Pilot.@@N@@.Jvm.D
theorem tw {G : Own.Gl} (hw : ∀ d ∈ tables_1, d.before G.a0 G.Z = true) (i : Nat) {d : Jvm.Cond} (h : tables_1[i]? = some d) : d.before G.a0 G.Z = true := hw d (List.mem_of_getElem? h)
theorem wS_in : ∀ d ∈ Own.wordsS, d ∈ tables_1 := by decide +kernel
theorem wS {G : Own.Gl} (hw : ∀ d ∈ tables_1, d.before G.a0 G.Z = true) : ∀ d ∈ Own.wordsS, d.before G.a0 G.Z = true := fun d hd => hw d (wS_in d hd)
theorem wQ_in : ∀ d ∈ StrChars.Road.wordsEq, d ∈ tables_1 := by decide +kernel
theorem wQ {G : Own.Gl} (hw : ∀ d ∈ tables_1, d.before G.a0 G.Z = true) : ∀ d ∈ StrChars.Road.wordsEq, d.before G.a0 G.Z = true := fun d hd => hw d (wQ_in d hd)
theorem d1_0 : decode method_3_code 0 = .ok (.iload_n 1, 1) := by decide +kernel
theorem d1_1 : decode method_3_code 1 = .ok (.ifCond .ne 14, 3) := by decide +kernel
theorem d1_4 : decode method_3_code 4 = .ok (.new 7, 3) := by decide +kernel
theorem d1_7 : decode method_3_code 7 = .ok (.dup, 1) := by decide +kernel
theorem d1_8 : decode method_3_code 8 = .ok (.iconst 0, 1) := by decide +kernel
theorem d1_9 : decode method_3_code 9 = .ok (.newarray .char, 2) := by decide +kernel
theorem d1_11 : decode method_3_code 11 = .ok (.invokespecial 9, 3) := by decide +kernel
theorem d1_14 : decode method_3_code 14 = .ok (.areturn, 1) := by decide +kernel
theorem d1_15 : decode method_3_code 15 = .ok (.iload_n 1, 1) := by decide +kernel
theorem d1_16 : decode method_3_code 16 = .ok (.iconst 1, 1) := by decide +kernel
theorem d1_17 : decode method_3_code 17 = .ok (.if_icmp .ne 20, 3) := by decide +kernel
theorem d1_20 : decode method_3_code 20 = .ok (.new 7, 3) := by decide +kernel
theorem d1_23 : decode method_3_code 23 = .ok (.dup, 1) := by decide +kernel
theorem d1_24 : decode method_3_code 24 = .ok (.iconst 1, 1) := by decide +kernel
theorem d1_25 : decode method_3_code 25 = .ok (.newarray .char, 2) := by decide +kernel
theorem d1_27 : decode method_3_code 27 = .ok (.dup, 1) := by decide +kernel
theorem d1_28 : decode method_3_code 28 = .ok (.iconst 0, 1) := by decide +kernel
theorem d1_29 : decode method_3_code 29 = .ok (.aload_n 0, 1) := by decide +kernel
theorem d1_30 : decode method_3_code 30 = .ok (.iconst 0, 1) := by decide +kernel
theorem d1_31 : decode method_3_code 31 = .ok (.caload, 1) := by decide +kernel
theorem d1_32 : decode method_3_code 32 = .ok (.castore, 1) := by decide +kernel
theorem d1_33 : decode method_3_code 33 = .ok (.invokespecial 9, 3) := by decide +kernel
theorem d1_36 : decode method_3_code 36 = .ok (.areturn, 1) := by decide +kernel
theorem d1_37 : decode method_3_code 37 = .ok (.iload_n 1, 1) := by decide +kernel
theorem d1_38 : decode method_3_code 38 = .ok (.iconst 2, 1) := by decide +kernel
theorem d1_39 : decode method_3_code 39 = .ok (.if_icmp .ne 26, 3) := by decide +kernel
theorem d1_42 : decode method_3_code 42 = .ok (.new 7, 3) := by decide +kernel
theorem d1_45 : decode method_3_code 45 = .ok (.dup, 1) := by decide +kernel
theorem d1_46 : decode method_3_code 46 = .ok (.iconst 2, 1) := by decide +kernel
theorem d1_47 : decode method_3_code 47 = .ok (.newarray .char, 2) := by decide +kernel
theorem d1_49 : decode method_3_code 49 = .ok (.dup, 1) := by decide +kernel
theorem d1_50 : decode method_3_code 50 = .ok (.iconst 0, 1) := by decide +kernel
theorem d1_51 : decode method_3_code 51 = .ok (.aload_n 0, 1) := by decide +kernel
theorem d1_52 : decode method_3_code 52 = .ok (.iconst 0, 1) := by decide +kernel
theorem d1_53 : decode method_3_code 53 = .ok (.caload, 1) := by decide +kernel
theorem d1_54 : decode method_3_code 54 = .ok (.castore, 1) := by decide +kernel
theorem d1_55 : decode method_3_code 55 = .ok (.dup, 1) := by decide +kernel
theorem d1_56 : decode method_3_code 56 = .ok (.iconst 1, 1) := by decide +kernel
theorem d1_57 : decode method_3_code 57 = .ok (.aload_n 0, 1) := by decide +kernel
theorem d1_58 : decode method_3_code 58 = .ok (.iconst 1, 1) := by decide +kernel
theorem d1_59 : decode method_3_code 59 = .ok (.caload, 1) := by decide +kernel
theorem d1_60 : decode method_3_code 60 = .ok (.castore, 1) := by decide +kernel
theorem d1_61 : decode method_3_code 61 = .ok (.invokespecial 9, 3) := by decide +kernel
theorem d1_64 : decode method_3_code 64 = .ok (.areturn, 1) := by decide +kernel
theorem d1_65 : decode method_3_code 65 = .ok (.iload_n 1, 1) := by decide +kernel
theorem d1_66 : decode method_3_code 66 = .ok (.iconst 3, 1) := by decide +kernel
theorem d1_67 : decode method_3_code 67 = .ok (.if_icmp .ne 32, 3) := by decide +kernel
theorem d1_70 : decode method_3_code 70 = .ok (.new 7, 3) := by decide +kernel
theorem d1_73 : decode method_3_code 73 = .ok (.dup, 1) := by decide +kernel
theorem d1_74 : decode method_3_code 74 = .ok (.iconst 3, 1) := by decide +kernel
theorem d1_75 : decode method_3_code 75 = .ok (.newarray .char, 2) := by decide +kernel
theorem d1_77 : decode method_3_code 77 = .ok (.dup, 1) := by decide +kernel
theorem d1_78 : decode method_3_code 78 = .ok (.iconst 0, 1) := by decide +kernel
theorem d1_79 : decode method_3_code 79 = .ok (.aload_n 0, 1) := by decide +kernel
theorem d1_80 : decode method_3_code 80 = .ok (.iconst 0, 1) := by decide +kernel
theorem d1_81 : decode method_3_code 81 = .ok (.caload, 1) := by decide +kernel
theorem d1_82 : decode method_3_code 82 = .ok (.castore, 1) := by decide +kernel
theorem d1_83 : decode method_3_code 83 = .ok (.dup, 1) := by decide +kernel
theorem d1_84 : decode method_3_code 84 = .ok (.iconst 1, 1) := by decide +kernel
theorem d1_85 : decode method_3_code 85 = .ok (.aload_n 0, 1) := by decide +kernel
theorem d1_86 : decode method_3_code 86 = .ok (.iconst 1, 1) := by decide +kernel
theorem d1_87 : decode method_3_code 87 = .ok (.caload, 1) := by decide +kernel
theorem d1_88 : decode method_3_code 88 = .ok (.castore, 1) := by decide +kernel
theorem d1_89 : decode method_3_code 89 = .ok (.dup, 1) := by decide +kernel
theorem d1_90 : decode method_3_code 90 = .ok (.iconst 2, 1) := by decide +kernel
theorem d1_91 : decode method_3_code 91 = .ok (.aload_n 0, 1) := by decide +kernel
theorem d1_92 : decode method_3_code 92 = .ok (.iconst 2, 1) := by decide +kernel
theorem d1_93 : decode method_3_code 93 = .ok (.caload, 1) := by decide +kernel
theorem d1_94 : decode method_3_code 94 = .ok (.castore, 1) := by decide +kernel
theorem d1_95 : decode method_3_code 95 = .ok (.invokespecial 9, 3) := by decide +kernel
theorem d1_98 : decode method_3_code 98 = .ok (.areturn, 1) := by decide +kernel
theorem d1_99 : decode method_3_code 99 = .ok (.iload_n 1, 1) := by decide +kernel
theorem d1_100 : decode method_3_code 100 = .ok (.iconst 4, 1) := by decide +kernel
theorem d1_101 : decode method_3_code 101 = .ok (.if_icmp .ne 38, 3) := by decide +kernel
theorem d1_104 : decode method_3_code 104 = .ok (.new 7, 3) := by decide +kernel
theorem d1_107 : decode method_3_code 107 = .ok (.dup, 1) := by decide +kernel
theorem d1_108 : decode method_3_code 108 = .ok (.iconst 4, 1) := by decide +kernel
theorem d1_109 : decode method_3_code 109 = .ok (.newarray .char, 2) := by decide +kernel
theorem d1_111 : decode method_3_code 111 = .ok (.dup, 1) := by decide +kernel
theorem d1_112 : decode method_3_code 112 = .ok (.iconst 0, 1) := by decide +kernel
theorem d1_113 : decode method_3_code 113 = .ok (.aload_n 0, 1) := by decide +kernel
theorem d1_114 : decode method_3_code 114 = .ok (.iconst 0, 1) := by decide +kernel
theorem d1_115 : decode method_3_code 115 = .ok (.caload, 1) := by decide +kernel
theorem d1_116 : decode method_3_code 116 = .ok (.castore, 1) := by decide +kernel
theorem d1_117 : decode method_3_code 117 = .ok (.dup, 1) := by decide +kernel
theorem d1_118 : decode method_3_code 118 = .ok (.iconst 1, 1) := by decide +kernel
theorem d1_119 : decode method_3_code 119 = .ok (.aload_n 0, 1) := by decide +kernel
theorem d1_120 : decode method_3_code 120 = .ok (.iconst 1, 1) := by decide +kernel
theorem d1_121 : decode method_3_code 121 = .ok (.caload, 1) := by decide +kernel
theorem d1_122 : decode method_3_code 122 = .ok (.castore, 1) := by decide +kernel
theorem d1_123 : decode method_3_code 123 = .ok (.dup, 1) := by decide +kernel
theorem d1_124 : decode method_3_code 124 = .ok (.iconst 2, 1) := by decide +kernel
theorem d1_125 : decode method_3_code 125 = .ok (.aload_n 0, 1) := by decide +kernel
theorem d1_126 : decode method_3_code 126 = .ok (.iconst 2, 1) := by decide +kernel
theorem d1_127 : decode method_3_code 127 = .ok (.caload, 1) := by decide +kernel
theorem d1_128 : decode method_3_code 128 = .ok (.castore, 1) := by decide +kernel
theorem d1_129 : decode method_3_code 129 = .ok (.dup, 1) := by decide +kernel
theorem d1_130 : decode method_3_code 130 = .ok (.iconst 3, 1) := by decide +kernel
theorem d1_131 : decode method_3_code 131 = .ok (.aload_n 0, 1) := by decide +kernel
theorem d1_132 : decode method_3_code 132 = .ok (.iconst 3, 1) := by decide +kernel
theorem d1_133 : decode method_3_code 133 = .ok (.caload, 1) := by decide +kernel
theorem d1_134 : decode method_3_code 134 = .ok (.castore, 1) := by decide +kernel
theorem d1_135 : decode method_3_code 135 = .ok (.invokespecial 9, 3) := by decide +kernel
theorem d1_138 : decode method_3_code 138 = .ok (.areturn, 1) := by decide +kernel
theorem d1_139 : decode method_3_code 139 = .ok (.new 7, 3) := by decide +kernel
theorem d1_142 : decode method_3_code 142 = .ok (.dup, 1) := by decide +kernel
theorem d1_143 : decode method_3_code 143 = .ok (.iconst 5, 1) := by decide +kernel
theorem d1_144 : decode method_3_code 144 = .ok (.newarray .char, 2) := by decide +kernel
theorem d1_146 : decode method_3_code 146 = .ok (.dup, 1) := by decide +kernel
theorem d1_147 : decode method_3_code 147 = .ok (.iconst 0, 1) := by decide +kernel
theorem d1_148 : decode method_3_code 148 = .ok (.aload_n 0, 1) := by decide +kernel
theorem d1_149 : decode method_3_code 149 = .ok (.iconst 0, 1) := by decide +kernel
theorem d1_150 : decode method_3_code 150 = .ok (.caload, 1) := by decide +kernel
theorem d1_151 : decode method_3_code 151 = .ok (.castore, 1) := by decide +kernel
theorem d1_152 : decode method_3_code 152 = .ok (.dup, 1) := by decide +kernel
theorem d1_153 : decode method_3_code 153 = .ok (.iconst 1, 1) := by decide +kernel
theorem d1_154 : decode method_3_code 154 = .ok (.aload_n 0, 1) := by decide +kernel
theorem d1_155 : decode method_3_code 155 = .ok (.iconst 1, 1) := by decide +kernel
theorem d1_156 : decode method_3_code 156 = .ok (.caload, 1) := by decide +kernel
theorem d1_157 : decode method_3_code 157 = .ok (.castore, 1) := by decide +kernel
theorem d1_158 : decode method_3_code 158 = .ok (.dup, 1) := by decide +kernel
theorem d1_159 : decode method_3_code 159 = .ok (.iconst 2, 1) := by decide +kernel
theorem d1_160 : decode method_3_code 160 = .ok (.aload_n 0, 1) := by decide +kernel
theorem d1_161 : decode method_3_code 161 = .ok (.iconst 2, 1) := by decide +kernel
theorem d1_162 : decode method_3_code 162 = .ok (.caload, 1) := by decide +kernel
theorem d1_163 : decode method_3_code 163 = .ok (.castore, 1) := by decide +kernel
theorem d1_164 : decode method_3_code 164 = .ok (.dup, 1) := by decide +kernel
theorem d1_165 : decode method_3_code 165 = .ok (.iconst 3, 1) := by decide +kernel
theorem d1_166 : decode method_3_code 166 = .ok (.aload_n 0, 1) := by decide +kernel
theorem d1_167 : decode method_3_code 167 = .ok (.iconst 3, 1) := by decide +kernel
theorem d1_168 : decode method_3_code 168 = .ok (.caload, 1) := by decide +kernel
theorem d1_169 : decode method_3_code 169 = .ok (.castore, 1) := by decide +kernel
theorem d1_170 : decode method_3_code 170 = .ok (.dup, 1) := by decide +kernel
theorem d1_171 : decode method_3_code 171 = .ok (.iconst 4, 1) := by decide +kernel
theorem d1_172 : decode method_3_code 172 = .ok (.aload_n 0, 1) := by decide +kernel
theorem d1_173 : decode method_3_code 173 = .ok (.iconst 4, 1) := by decide +kernel
theorem d1_174 : decode method_3_code 174 = .ok (.caload, 1) := by decide +kernel
theorem d1_175 : decode method_3_code 175 = .ok (.castore, 1) := by decide +kernel
theorem d1_176 : decode method_3_code 176 = .ok (.invokespecial 9, 3) := by decide +kernel
theorem d1_179 : decode method_3_code 179 = .ok (.areturn, 1) := by decide +kernel
theorem d8_0 : decode jdk_42_method_66_code 0 = .ok (.aload_n 0, 1) := by decide +kernel
theorem d8_1 : decode jdk_42_method_66_code 1 = .ok (.aload_n 1, 1) := by decide +kernel
theorem d8_2 : decode jdk_42_method_66_code 2 = .ok (.if_acmp .ne 5, 3) := by decide +kernel
theorem d8_7 : decode jdk_42_method_66_code 7 = .ok (.aload_n 1, 1) := by decide +kernel
theorem d8_8 : decode jdk_42_method_66_code 8 = .ok (.instanceof 10, 3) := by decide +kernel
theorem d8_11 : decode jdk_42_method_66_code 11 = .ok (.ifCond .eq 43, 3) := by decide +kernel
theorem d8_54 : decode jdk_42_method_66_code 54 = .ok (.iconst 0, 1) := by decide +kernel
theorem d8_55 : decode jdk_42_method_66_code 55 = .ok (.ireturn, 1) := by decide +kernel
theorem d10_0 : decode prog_17_method_4_code 0 = .ok (.invokestatic 36, 3) := by decide +kernel
theorem d10_3 : decode prog_17_method_4_code 3 = .ok (.astore_n 1, 1) := by decide +kernel
theorem d10_4 : decode prog_17_method_4_code 4 = .ok (.aload_n 1, 1) := by decide +kernel
theorem d10_5 : decode prog_17_method_4_code 5 = .ok (.arraylength, 1) := by decide +kernel
theorem d10_6 : decode prog_17_method_4_code 6 = .ok (.istore_n 2, 1) := by decide +kernel
theorem d10_7 : decode prog_17_method_4_code 7 = .ok (.iconst 0, 1) := by decide +kernel
theorem d10_8 : decode prog_17_method_4_code 8 = .ok (.istore_n 3, 1) := by decide +kernel
theorem d10_9 : decode prog_17_method_4_code 9 = .ok (.iload_n 3, 1) := by decide +kernel
theorem d10_10 : decode prog_17_method_4_code 10 = .ok (.iload_n 2, 1) := by decide +kernel
theorem d10_11 : decode prog_17_method_4_code 11 = .ok (.if_icmp .ge 29, 3) := by decide +kernel
theorem d10_14 : decode prog_17_method_4_code 14 = .ok (.aload_n 1, 1) := by decide +kernel
theorem d10_15 : decode prog_17_method_4_code 15 = .ok (.iload_n 3, 1) := by decide +kernel
theorem d10_16 : decode prog_17_method_4_code 16 = .ok (.aaload, 1) := by decide +kernel
theorem d10_17 : decode prog_17_method_4_code 17 = .ok (.astore 4, 2) := by decide +kernel
theorem d10_19 : decode prog_17_method_4_code 19 = .ok (.aload 4, 2) := by decide +kernel
theorem d10_21 : decode prog_17_method_4_code 21 = .ok (.getfield 32, 3) := by decide +kernel
theorem d10_24 : decode prog_17_method_4_code 24 = .ok (.aload_n 0, 1) := by decide +kernel
theorem d10_25 : decode prog_17_method_4_code 25 = .ok (.invokevirtual 40, 3) := by decide +kernel
theorem d10_28 : decode prog_17_method_4_code 28 = .ok (.ifCond .eq 6, 3) := by decide +kernel
theorem d10_31 : decode prog_17_method_4_code 31 = .ok (.aload 4, 2) := by decide +kernel
theorem d10_33 : decode prog_17_method_4_code 33 = .ok (.areturn, 1) := by decide +kernel
theorem d10_34 : decode prog_17_method_4_code 34 = .ok (.iinc 3 1, 3) := by decide +kernel
theorem d10_37 : decode prog_17_method_4_code 37 = .ok (.goto (-28), 3) := by decide +kernel
theorem d10_40 : decode prog_17_method_4_code 40 = .ok (.aconst_null, 1) := by decide +kernel
theorem d10_41 : decode prog_17_method_4_code 41 = .ok (.areturn, 1) := by decide +kernel
theorem d11_0 : decode prog_17_method_1_code 0 = .ok (.getstatic 13, 3) := by decide +kernel
theorem d11_3 : decode prog_17_method_1_code 3 = .ok (.invokevirtual 17, 3) := by decide +kernel
theorem d11_6 : decode prog_17_method_1_code 6 = .ok (.checkcast 18, 3) := by decide +kernel
theorem d11_9 : decode prog_17_method_1_code 9 = .ok (.areturn, 1) := by decide +kernel
theorem d12_0 : decode method_2_code 0 = .ok (.iload_n 0, 1) := by decide +kernel
theorem d12_1 : decode method_2_code 1 = .ok (.ifCond .ne 27, 3) := by decide +kernel
theorem d12_4 : decode method_2_code 4 = .ok (.iconst 4, 1) := by decide +kernel
theorem d12_5 : decode method_2_code 5 = .ok (.newarray .char, 2) := by decide +kernel
theorem d12_7 : decode method_2_code 7 = .ok (.dup, 1) := by decide +kernel
theorem d12_8 : decode method_2_code 8 = .ok (.iconst 0, 1) := by decide +kernel
theorem d12_9 : decode method_2_code 9 = .ok (.bipush 104, 2) := by decide +kernel
theorem d12_11 : decode method_2_code 11 = .ok (.castore, 1) := by decide +kernel
theorem d12_12 : decode method_2_code 12 = .ok (.dup, 1) := by decide +kernel
theorem d12_13 : decode method_2_code 13 = .ok (.iconst 1, 1) := by decide +kernel
theorem d12_14 : decode method_2_code 14 = .ok (.bipush 111, 2) := by decide +kernel
theorem d12_16 : decode method_2_code 16 = .ok (.castore, 1) := by decide +kernel
theorem d12_17 : decode method_2_code 17 = .ok (.dup, 1) := by decide +kernel
theorem d12_18 : decode method_2_code 18 = .ok (.iconst 2, 1) := by decide +kernel
theorem d12_19 : decode method_2_code 19 = .ok (.bipush 108, 2) := by decide +kernel
theorem d12_21 : decode method_2_code 21 = .ok (.castore, 1) := by decide +kernel
theorem d12_22 : decode method_2_code 22 = .ok (.dup, 1) := by decide +kernel
theorem d12_23 : decode method_2_code 23 = .ok (.iconst 3, 1) := by decide +kernel
theorem d12_24 : decode method_2_code 24 = .ok (.bipush 100, 2) := by decide +kernel
theorem d12_26 : decode method_2_code 26 = .ok (.castore, 1) := by decide +kernel
theorem d12_27 : decode method_2_code 27 = .ok (.areturn, 1) := by decide +kernel
theorem d12_28 : decode method_2_code 28 = .ok (.iload_n 0, 1) := by decide +kernel
theorem d12_29 : decode method_2_code 29 = .ok (.iconst 1, 1) := by decide +kernel
theorem d12_30 : decode method_2_code 30 = .ok (.if_icmp .ne 27, 3) := by decide +kernel
theorem d12_33 : decode method_2_code 33 = .ok (.iconst 4, 1) := by decide +kernel
theorem d12_34 : decode method_2_code 34 = .ok (.newarray .char, 2) := by decide +kernel
theorem d12_36 : decode method_2_code 36 = .ok (.dup, 1) := by decide +kernel
theorem d12_37 : decode method_2_code 37 = .ok (.iconst 0, 1) := by decide +kernel
theorem d12_38 : decode method_2_code 38 = .ok (.bipush 107, 2) := by decide +kernel
theorem d12_40 : decode method_2_code 40 = .ok (.castore, 1) := by decide +kernel
theorem d12_41 : decode method_2_code 41 = .ok (.dup, 1) := by decide +kernel
theorem d12_42 : decode method_2_code 42 = .ok (.iconst 1, 1) := by decide +kernel
theorem d12_43 : decode method_2_code 43 = .ok (.bipush 101, 2) := by decide +kernel
theorem d12_45 : decode method_2_code 45 = .ok (.castore, 1) := by decide +kernel
theorem d12_46 : decode method_2_code 46 = .ok (.dup, 1) := by decide +kernel
theorem d12_47 : decode method_2_code 47 = .ok (.iconst 2, 1) := by decide +kernel
theorem d12_48 : decode method_2_code 48 = .ok (.bipush 101, 2) := by decide +kernel
theorem d12_50 : decode method_2_code 50 = .ok (.castore, 1) := by decide +kernel
theorem d12_51 : decode method_2_code 51 = .ok (.dup, 1) := by decide +kernel
theorem d12_52 : decode method_2_code 52 = .ok (.iconst 3, 1) := by decide +kernel
theorem d12_53 : decode method_2_code 53 = .ok (.bipush 112, 2) := by decide +kernel
theorem d12_55 : decode method_2_code 55 = .ok (.castore, 1) := by decide +kernel
theorem d12_56 : decode method_2_code 56 = .ok (.areturn, 1) := by decide +kernel
theorem d12_57 : decode method_2_code 57 = .ok (.iconst 4, 1) := by decide +kernel
theorem d12_58 : decode method_2_code 58 = .ok (.newarray .char, 2) := by decide +kernel
theorem d12_60 : decode method_2_code 60 = .ok (.dup, 1) := by decide +kernel
theorem d12_61 : decode method_2_code 61 = .ok (.iconst 0, 1) := by decide +kernel
theorem d12_62 : decode method_2_code 62 = .ok (.bipush 110, 2) := by decide +kernel
theorem d12_64 : decode method_2_code 64 = .ok (.castore, 1) := by decide +kernel
theorem d12_65 : decode method_2_code 65 = .ok (.dup, 1) := by decide +kernel
theorem d12_66 : decode method_2_code 66 = .ok (.iconst 1, 1) := by decide +kernel
theorem d12_67 : decode method_2_code 67 = .ok (.bipush 111, 2) := by decide +kernel
theorem d12_69 : decode method_2_code 69 = .ok (.castore, 1) := by decide +kernel
theorem d12_70 : decode method_2_code 70 = .ok (.dup, 1) := by decide +kernel
theorem d12_71 : decode method_2_code 71 = .ok (.iconst 2, 1) := by decide +kernel
theorem d12_72 : decode method_2_code 72 = .ok (.bipush 110, 2) := by decide +kernel
theorem d12_74 : decode method_2_code 74 = .ok (.castore, 1) := by decide +kernel
theorem d12_75 : decode method_2_code 75 = .ok (.dup, 1) := by decide +kernel
theorem d12_76 : decode method_2_code 76 = .ok (.iconst 3, 1) := by decide +kernel
theorem d12_77 : decode method_2_code 77 = .ok (.bipush 101, 2) := by decide +kernel
theorem d12_79 : decode method_2_code 79 = .ok (.castore, 1) := by decide +kernel
theorem d12_80 : decode method_2_code 80 = .ok (.areturn, 1) := by decide +kernel
theorem pd_0 : parseMethodDescriptor "()[Lcom/example/couplet/couplet/core/LocalOverride;" = some ⟨[], some (.array (.object "com/example/couplet/couplet/core/LocalOverride"))⟩ := by decide +kernel
theorem pd_1 : parseMethodDescriptor "(Ljava/lang/Object;)Z" = some ⟨[(.object "java/lang/Object")], some .boolean⟩ := by decide +kernel
theorem pd_2 : parseMethodDescriptor "([C)V" = some ⟨[(.array .char)], none⟩ := by decide +kernel
theorem pd_3 : parseMethodDescriptor "([CI)Ljava/lang/String;" = some ⟨[(.array .char), .int], some (.object "java/lang/String")⟩ := by decide +kernel
theorem pd_4 : parseMethodDescriptor "(Ljava/lang/String;)Lcom/example/couplet/couplet/core/LocalOverride;" = some ⟨[(.object "java/lang/String")], some (.object "com/example/couplet/couplet/core/LocalOverride")⟩ := by decide +kernel
theorem pd_5 : parseMethodDescriptor "(I)[C" = some ⟨[.int], some (.array .char)⟩ := by decide +kernel
theorem pn_0 : plainName "com/example/couplet/couplet/core/LocalOverride" = true := by first | (simp [plainName, overriddenIn]; done) | decide +kernel
theorem pn_1 : plainName "java/lang/String" = true := by first | (simp [plainName, overriddenIn]; done) | decide +kernel
theorem pn_2 : plainName "com/example/couplet/couplet/core/LocalOverrideNamedPinLaw" = true := by first | (simp [plainName, overriddenIn]; done) | decide +kernel
theorem ef_bVals (m : MethodId)  : entryFrame m #[] 0 = mkF m 0 #[] [] := by first | (simp [entryFrame, mkF, argsToLocals, Value.category]; done) | rfl
theorem ef_bSEqN (m : MethodId) (x : Addr) : entryFrame m #[(.ref x), .null] 3 = mkF m 0 #[.val (.ref x), .val .null, .unset] [] := by first | (simp [entryFrame, mkF, argsToLocals, Value.category]; done) | rfl
theorem ef_named (m : MethodId) (x : Addr) : entryFrame m #[(.ref x)] 5 = mkF m 0 #[.val (.ref x), .unset, .unset, .unset, .unset] [] := by first | (simp [entryFrame, mkF, argsToLocals, Value.category]; done) | rfl
theorem ef_namedN (m : MethodId)  : entryFrame m #[.null] 5 = mkF m 0 #[.val .null, .unset, .unset, .unset, .unset] [] := by first | (simp [entryFrame, mkF, argsToLocals, Value.category]; done) | rfl
theorem ef_bTmp (m : MethodId) (k : Int32) : entryFrame m #[(.int k)] 1 = mkF m 0 #[.val (.int k)] [] := by first | (simp [entryFrame, mkF, argsToLocals, Value.category]; done) | rfl
theorem ef_bBld (m : MethodId) (bf : Addr) (n : Int32) : entryFrame m #[(.ref bf), (.int n)] 2 = mkF m 0 #[.val (.ref bf), .val (.int n)] [] := by first | (simp [entryFrame, mkF, argsToLocals, Value.category]; done) | rfl
theorem ef_law (m : MethodId) (p0 : Int32) (p1 : Int32) (p2 : Int32) (p3 : Int32) (p4 : Int32) : entryFrame m #[(.int p0), (.int p1), (.int p2), (.int p3), (.int p4)] maxLocals = mkF m 0 #[.val (.int p0), .val (.int p1), .val (.int p2), .val (.int p3), .val (.int p4), .unset, .unset, .unset, .unset] [] := by first | (simp [entryFrame, mkF, argsToLocals, Value.category, maxLocals]; done) | rfl
theorem pos5 (x : Int32) : ¬ (x &&& 7) % 5 < 0 ∧ (x &&& 7) % 5 < 5 := by
  have h1 := c_and x 7 (by decide)
  have h2 := (c_irem (x &&& 7) 5 5 (by decide)).1 h1.1
  have e0 : (0 : Int32).toInt = 0 := by decide
  have e5 : (5 : Int32).toInt = 5 := by decide
  rw [Int32.lt_iff_toInt_lt, Int32.lt_iff_toInt_lt, h2, e0, e5]
  omega
abbrev bVals : Own.Bo := (⟨"com/example/couplet/couplet/core/LocalOverride", "values", "()[Lcom/example/couplet/couplet/core/LocalOverride;"⟩, prog_17_method_1_code, 0, (some (.array (.object "com/example/couplet/couplet/core/LocalOverride"))), ({ frames := 1, cells := 1, slots := 3, locals := 14 } : Room))
abbrev bSEq : Own.Bo := (⟨"java/lang/String", "equals", "(Ljava/lang/Object;)Z"⟩, jdk_42_method_66_code, 3, (some .boolean), ({ frames := 0, cells := 0, slots := 0, locals := 0 } : Room))
abbrev bNamed : Own.Bo := (⟨"com/example/couplet/couplet/core/LocalOverride", "named", "(Ljava/lang/String;)Lcom/example/couplet/couplet/core/LocalOverride;"⟩, prog_17_method_4_code, 5, (some (.object "com/example/couplet/couplet/core/LocalOverride")), ({ frames := 3, cells := 1, slots := 3, locals := 42 } : Room))
abbrev bTmp : Own.Bo := (⟨"com/example/couplet/couplet/core/LocalOverrideNamedPinLaw", "template", "(I)[C"⟩, method_2_code, 1, (some (.array .char)), ({ frames := 0, cells := 1, slots := 4, locals := 0 } : Room))
abbrev bBld : Own.Bo := (⟨"com/example/couplet/couplet/core/LocalOverrideNamedPinLaw", "build", "([CI)Ljava/lang/String;"⟩, method_3_code, 2, (some (.object "java/lang/String")), ({ frames := 4, cells := 6, slots := 22, locals := 66 } : Room))
abbrev bLaw : Own.Bo := (x, code, maxLocals, ret, room_1)
set_option maxRecDepth 65536 in
set_option maxHeartbeats 40000000 in
theorem con_vals {G : Own.Gl} (hw : ∀ d ∈ tables_1, d.before G.a0 G.Z = true) (hEL : EW G.Z G.a0 G.EL) {rv r0 r1 r2 l0 l1 l2 : Addr} {kV : ClassId} (TV : Sta G.Z G.Z.heap "com/example/couplet/couplet/core/LocalOverride" "$VALUES" "[Lcom/example/couplet/couplet/core/LocalOverride;" (.ref rv)) (AV : Arv G.Z G.Z.heap rv kV (.object "com/example/couplet/couplet/core/LocalOverride") 3 [(.ref r0), (.ref r1), (.ref r2)] .null) (XV : Exa G.Z G.Z.heap rv "[Lcom/example/couplet/couplet/core/LocalOverride;") (TE0 : Sta G.Z G.Z.heap "com/example/couplet/couplet/core/LocalOverride" "HOLD" "Lcom/example/couplet/couplet/core/LocalOverride;" (.ref r0)) (LE0 : Fld G.Z G.Z.heap r0 "com/example/couplet/couplet/core/LocalOverride" "label" "Ljava/lang/String;" (.ref l0)) (SE0 : Own.Str G.Z G.Z.heap l0 [(104 : Int32), (111 : Int32), (108 : Int32), (100 : Int32)]) (TE1 : Sta G.Z G.Z.heap "com/example/couplet/couplet/core/LocalOverride" "KEEP" "Lcom/example/couplet/couplet/core/LocalOverride;" (.ref r1)) (LE1 : Fld G.Z G.Z.heap r1 "com/example/couplet/couplet/core/LocalOverride" "label" "Ljava/lang/String;" (.ref l1)) (SE1 : Own.Str G.Z G.Z.heap l1 [(107 : Int32), (101 : Int32), (101 : Int32), (112 : Int32)]) (TE2 : Sta G.Z G.Z.heap "com/example/couplet/couplet/core/LocalOverride" "NONE" "Lcom/example/couplet/couplet/core/LocalOverride;" (.ref r2)) (LE2 : Fld G.Z G.Z.heap r2 "com/example/couplet/couplet/core/LocalOverride" "label" "Ljava/lang/String;" (.ref l2)) (SE2 : Own.Str G.Z G.Z.heap l2 [(110 : Int32), (111 : Int32), (110 : Int32), (101 : Int32)]) {h : Heap} (hO : Old G.Z G.n0 h) :
    Own.Con G [] bVals #[] h [] (fun v h' => ∃ b : Addr, v = some (.ref b) ∧ Ext h h' ∧ h.size ≤ b ∧ Arv G.Z h' b kV (.object "com/example/couplet/couplet/core/LocalOverride") 3 [(.ref r0), (.ref r1), (.ref r2)] .null) := by
  refine Own.Con.intro (plainFor_of_name pn_0) hO hEL _ (fun m => ef_bVals m ) ?_
  intro X T0 W0 sf
  refine Own.getS W0 (tw hw 56 rfl) Via.refl (W0.sta TV) d11_0 3 rfl ?_
  intro T1 W1
  refine Own.cloneV W1 (tw hw 58 rfl) (tw hw 59 rfl) (tw hw 63 rfl) (tw hw 61 rfl) (tw hw 62 rfl) (tw hw 64 rfl) (AV.ext W1.old.2) (XV.ext W1.old.2) rfl d11_3 6 rfl (by decide) (by decide) 3 (by decide) 1 3 (Nat.le_of_ble_eq_true rfl) (Nat.le_of_ble_eq_true rfl) (Nat.le_of_ble_eq_true rfl) (Nat.le_of_ble_eq_true rfl) ?_
  intro T2 h2 o2 g2 W2 E2 A2 X2
  refine Own.castY W2 (tw hw 69 rfl) (Ins.self X2) d11_6 9 rfl ?_
  intro T3 W3
  exact Own.retA W3 (by decide) (by decide) rfl rfl rfl d11_9 ⟨o2, rfl, E2, (Nat.le_of_eq g2.symm), A2⟩
set_option maxRecDepth 65536 in
set_option maxHeartbeats 40000000 in
theorem con_seqn {G : Own.Gl} (hw : ∀ d ∈ tables_1, d.before G.a0 G.Z = true) (hEL : EW G.Z G.a0 G.EL) {x : Addr} {h : Heap} (hO : Old G.Z G.n0 h) :
    Own.Con G [] bSEq #[.ref x, .null] h [] (fun v h' => v = some (.int 0) ∧ h' = h) := by
  refine Own.Con.intro (plainFor_of_name pn_1) hO hEL _ (fun m => ef_bSEqN m x) ?_
  intro X T0 W0 sf
  refine Own.aloadN W0 d8_0 1 rfl (.ref x) rfl rfl ?_
  refine Own.aloadN W0 d8_1 2 rfl .null rfl rfl ?_
  refine Own.acmp W0 d8_2 7 rfl rfl false (decide_eq_false nofun) (by decide) rfl ?_
  refine Own.aloadN W0 d8_7 8 rfl .null rfl rfl ?_
  refine Own.instNull W0 d8_8 11 rfl ?_
  refine Own.ifYes W0 d8_11 54 (by decide) (by decide) (by decide) ?_
  refine Own.iconst W0 d8_54 55 rfl (0 : Int32) rfl ?_
  exact Own.retB W0 (by decide) (by decide) rfl d8_55 rfl ⟨rfl, rfl⟩
set_option maxRecDepth 65536 in
set_option maxHeartbeats 40000000 in
theorem con_named {G : Own.Gl} (hw : ∀ d ∈ tables_1, d.before G.a0 G.Z = true) (hEL : EW G.Z G.a0 G.EL) (hmem : (Own.ST, 7) ∈ G.EL) {cz : Int32} (hS : Sta G.Z G.Z.heap Own.ST "COMPACT_STRINGS" "Z" (.int cz)) (hcz : ¬ cz = 0) {rv r0 r1 r2 l0 l1 l2 : Addr} {kV : ClassId} (TV : Sta G.Z G.Z.heap "com/example/couplet/couplet/core/LocalOverride" "$VALUES" "[Lcom/example/couplet/couplet/core/LocalOverride;" (.ref rv)) (AV : Arv G.Z G.Z.heap rv kV (.object "com/example/couplet/couplet/core/LocalOverride") 3 [(.ref r0), (.ref r1), (.ref r2)] .null) (XV : Exa G.Z G.Z.heap rv "[Lcom/example/couplet/couplet/core/LocalOverride;") (TE0 : Sta G.Z G.Z.heap "com/example/couplet/couplet/core/LocalOverride" "HOLD" "Lcom/example/couplet/couplet/core/LocalOverride;" (.ref r0)) (LE0 : Fld G.Z G.Z.heap r0 "com/example/couplet/couplet/core/LocalOverride" "label" "Ljava/lang/String;" (.ref l0)) (SE0 : Own.Str G.Z G.Z.heap l0 [(104 : Int32), (111 : Int32), (108 : Int32), (100 : Int32)]) (TE1 : Sta G.Z G.Z.heap "com/example/couplet/couplet/core/LocalOverride" "KEEP" "Lcom/example/couplet/couplet/core/LocalOverride;" (.ref r1)) (LE1 : Fld G.Z G.Z.heap r1 "com/example/couplet/couplet/core/LocalOverride" "label" "Ljava/lang/String;" (.ref l1)) (SE1 : Own.Str G.Z G.Z.heap l1 [(107 : Int32), (101 : Int32), (101 : Int32), (112 : Int32)]) (TE2 : Sta G.Z G.Z.heap "com/example/couplet/couplet/core/LocalOverride" "NONE" "Lcom/example/couplet/couplet/core/LocalOverride;" (.ref r2)) (LE2 : Fld G.Z G.Z.heap r2 "com/example/couplet/couplet/core/LocalOverride" "label" "Ljava/lang/String;" (.ref l2)) (SE2 : Own.Str G.Z G.Z.heap l2 [(110 : Int32), (111 : Int32), (110 : Int32), (101 : Int32)]) {x : Addr} {cs : List Int32} {h : Heap} (hO : Old G.Z G.n0 h) (Sx : Own.Str G.Z h x cs) :
    Own.Con G [] bNamed #[.ref x] h [] (fun v h' => ((v = some (.ref r0) ∧ cs = [(104 : Int32), (111 : Int32), (108 : Int32), (100 : Int32)]) ∨ (v = some (.ref r1) ∧ ¬ cs = [(104 : Int32), (111 : Int32), (108 : Int32), (100 : Int32)] ∧ cs = [(107 : Int32), (101 : Int32), (101 : Int32), (112 : Int32)]) ∨ (v = some (.ref r2) ∧ ¬ cs = [(104 : Int32), (111 : Int32), (108 : Int32), (100 : Int32)] ∧ ¬ cs = [(107 : Int32), (101 : Int32), (101 : Int32), (112 : Int32)] ∧ cs = [(110 : Int32), (111 : Int32), (110 : Int32), (101 : Int32)]) ∨ (v = some .null ∧ ¬ cs = [(104 : Int32), (111 : Int32), (108 : Int32), (100 : Int32)] ∧ ¬ cs = [(107 : Int32), (101 : Int32), (101 : Int32), (112 : Int32)] ∧ ¬ cs = [(110 : Int32), (111 : Int32), (110 : Int32), (101 : Int32)])) ∧ Ext h h') := by
  refine Own.Con.intro (plainFor_of_name pn_0) hO hEL _ (fun m => ef_named m x) ?_
  intro X T0 W0 sf
  have lb0 := LE0.ext W0.old.2
  have sb0 := SE0.ext W0.old.2
  have xb0 := sb0.exa
  have lb1 := LE1.ext W0.old.2
  have sb1 := SE1.ext W0.old.2
  have xb1 := sb1.exa
  have lb2 := LE2.ext W0.old.2
  have sb2 := SE2.ext W0.old.2
  have xb2 := sb2.exa
  refine Own.callS W0 (tw hw 53 rfl) (tw hw 54 rfl) (tw hw 51 rfl) (tw hw 55 rfl) (by decide) (argsL := []) (rest := []) (Own.Con.pay (con_vals hw hEL TV AV XV TE0 LE0 SE0 TE1 LE1 SE1 TE2 LE2 SE2 W0.old) W0 (tw hw 55 rfl) (tw hw 51 rfl) (len := 3) (wd := 0) (by decide) (by decide) (fun _ q => nomatch q)) rfl (lenOf pd_0 rfl) rfl (Nat.le_of_ble_eq_true rfl) d10_0 3 rfl 1 3 (Nat.le_of_ble_eq_true rfl) (Nat.le_of_ble_eq_true rfl) (Nat.le_of_ble_eq_true rfl) (Nat.le_of_ble_eq_true rfl) ?_
  intro v1 T1 h1 u1 W1 R1 hq
  obtain ⟨o1, rfl, E1, g1, A1⟩ := hq
  show Own.Go _ _ _ _ _ 3 #[.val (.ref x), .unset, .unset, .unset, .unset] [(.ref o1)]
  refine Own.astoreN W1 d10_3 4 rfl rfl #[.val (.ref x), .val (.ref o1), .unset, .unset, .unset] rfl ?_
  refine Own.aloadN W1 d10_4 5 rfl (.ref o1) rfl rfl ?_
  refine Own.arrlen W1 A1 d10_5 6 rfl ?_
  refine Own.istoreN W1 d10_6 7 rfl #[.val (.ref x), .val (.ref o1), .val (.int (3 : Int32)), .unset, .unset] rfl ?_
  refine Own.iconst W1 d10_7 8 rfl (0 : Int32) rfl ?_
  refine Own.istoreN W1 d10_8 9 rfl #[.val (.ref x), .val (.ref o1), .val (.int (3 : Int32)), .val (.int (0 : Int32)), .unset] rfl ?_
  refine Own.iloadN W1 d10_9 10 rfl (0 : Int32) rfl ?_
  refine Own.iloadN W1 d10_10 11 rfl (3 : Int32) rfl ?_
  refine Own.icmpNo W1 d10_11 14 (by decide) rfl ?_
  refine Own.aloadN W1 d10_14 15 rfl (.ref o1) rfl rfl ?_
  refine Own.iloadN W1 d10_15 16 rfl (0 : Int32) rfl ?_
  refine Own.aaload W1 A1 rfl (by decide) (.ref r0) rfl d10_16 17 rfl ?_
  refine Own.astore W1 d10_17 19 rfl rfl #[.val (.ref x), .val (.ref o1), .val (.int (3 : Int32)), .val (.int (0 : Int32)), .val (.ref r0)] rfl ?_
  refine Own.aload W1 d10_19 21 rfl (.ref r0) rfl rfl ?_
  have X2 : Ext h h1 := E1
  refine Own.getF W1 (tw hw 71 rfl) Via.refl (lb0.ext X2) d10_21 24 rfl ?_
  intro T3 W3
  refine Own.aloadN W3 d10_24 25 rfl (.ref x) rfl rfl ?_
  refine Own.callV W3 (tw hw 73 rfl) (tw hw 38 rfl) (fun s q => notFace_of_selects (args := #[]) (mvT (s := s) q (tw hw 40 rfl))) (tw hw 40 rfl) (tw hw 39 rfl) (by decide) (argsL := [(.ref x)]) (rest := []) (Own.payEq (wQ hw) (kI := 4) (tw hw 6 rfl) W3 (sb0.ext X2) (Sx.ext X2) hS hcz (len := 3) (wd := 0) (by decide) (by decide)) (xb0.ext X2) rfl (lenOf pd_1 rfl) rfl (Nat.le_of_ble_eq_true rfl) d10_25 28 rfl 1 3 (Nat.le_of_ble_eq_true rfl) (Nat.le_of_ble_eq_true rfl) (Nat.le_of_ble_eq_true rfl) (Nat.le_of_ble_eq_true rfl) ?_
  intro v4 T4 h4 u4 W4 R4 hq
  obtain ⟨hv4, eh4⟩ := hq
  have ei4 := eh4.symm; subst ei4
  rcases hv4 with ⟨rfl, q0⟩ | ⟨rfl, q0⟩
  · skip
    show Own.Go _ _ _ _ _ 28 #[.val (.ref x), .val (.ref o1), .val (.int (3 : Int32)), .val (.int (0 : Int32)), .val (.ref r0)] [(.int (1 : Int32))]
    refine Own.ifNo W4 d10_28 31 (by decide) rfl ?_
    refine Own.aload W4 d10_31 33 rfl (.ref r0) rfl rfl ?_
    exact Own.retA W4 (by decide) (by decide) rfl rfl rfl d10_33 ⟨Or.inl ⟨rfl, q0.symm⟩, X2⟩
  · skip
    show Own.Go _ _ _ _ _ 28 #[.val (.ref x), .val (.ref o1), .val (.int (3 : Int32)), .val (.int (0 : Int32)), .val (.ref r0)] [(.int (0 : Int32))]
    refine Own.ifYes W4 d10_28 34 (by decide) (by decide) (by decide) ?_
    refine Own.iinc W4 d10_34 37 rfl rfl #[.val (.ref x), .val (.ref o1), .val (.int (3 : Int32)), .val (.int (1 : Int32)), .val (.ref r0)] rfl ?_
    refine Own.goto W4 d10_37 9 (by decide) (by decide) ?_
    refine Own.iloadN W4 d10_9 10 rfl (1 : Int32) rfl ?_
    refine Own.iloadN W4 d10_10 11 rfl (3 : Int32) rfl ?_
    refine Own.icmpNo W4 d10_11 14 (by decide) rfl ?_
    refine Own.aloadN W4 d10_14 15 rfl (.ref o1) rfl rfl ?_
    refine Own.iloadN W4 d10_15 16 rfl (1 : Int32) rfl ?_
    refine Own.aaload W4 A1 rfl (by decide) (.ref r1) rfl d10_16 17 rfl ?_
    refine Own.astore W4 d10_17 19 rfl rfl #[.val (.ref x), .val (.ref o1), .val (.int (3 : Int32)), .val (.int (1 : Int32)), .val (.ref r1)] rfl ?_
    refine Own.aload W4 d10_19 21 rfl (.ref r1) rfl rfl ?_
    refine Own.getF W4 (tw hw 71 rfl) Via.refl (lb1.ext X2) d10_21 24 rfl ?_
    intro T5 W5
    refine Own.aloadN W5 d10_24 25 rfl (.ref x) rfl rfl ?_
    refine Own.callV W5 (tw hw 73 rfl) (tw hw 38 rfl) (fun s q => notFace_of_selects (args := #[]) (mvT (s := s) q (tw hw 40 rfl))) (tw hw 40 rfl) (tw hw 39 rfl) (by decide) (argsL := [(.ref x)]) (rest := []) (Own.payEq (wQ hw) (kI := 4) (tw hw 6 rfl) W5 (sb1.ext X2) (Sx.ext X2) hS hcz (len := 3) (wd := 0) (by decide) (by decide)) (xb1.ext X2) rfl (lenOf pd_1 rfl) rfl (Nat.le_of_ble_eq_true rfl) d10_25 28 rfl 1 3 (Nat.le_of_ble_eq_true rfl) (Nat.le_of_ble_eq_true rfl) (Nat.le_of_ble_eq_true rfl) (Nat.le_of_ble_eq_true rfl) ?_
    intro v6 T6 h6 u6 W6 R6 hq
    obtain ⟨hv6, eh6⟩ := hq
    have ei6 := eh6.symm; subst ei6
    rcases hv6 with ⟨rfl, q1⟩ | ⟨rfl, q1⟩
    · skip
      show Own.Go _ _ _ _ _ 28 #[.val (.ref x), .val (.ref o1), .val (.int (3 : Int32)), .val (.int (1 : Int32)), .val (.ref r1)] [(.int (1 : Int32))]
      refine Own.ifNo W6 d10_28 31 (by decide) rfl ?_
      refine Own.aload W6 d10_31 33 rfl (.ref r1) rfl rfl ?_
      exact Own.retA W6 (by decide) (by decide) rfl rfl rfl d10_33 ⟨Or.inr (Or.inl ⟨rfl, fun z => q0 z.symm, q1.symm⟩), X2⟩
    · skip
      show Own.Go _ _ _ _ _ 28 #[.val (.ref x), .val (.ref o1), .val (.int (3 : Int32)), .val (.int (1 : Int32)), .val (.ref r1)] [(.int (0 : Int32))]
      refine Own.ifYes W6 d10_28 34 (by decide) (by decide) (by decide) ?_
      refine Own.iinc W6 d10_34 37 rfl rfl #[.val (.ref x), .val (.ref o1), .val (.int (3 : Int32)), .val (.int (2 : Int32)), .val (.ref r1)] rfl ?_
      refine Own.goto W6 d10_37 9 (by decide) (by decide) ?_
      refine Own.iloadN W6 d10_9 10 rfl (2 : Int32) rfl ?_
      refine Own.iloadN W6 d10_10 11 rfl (3 : Int32) rfl ?_
      refine Own.icmpNo W6 d10_11 14 (by decide) rfl ?_
      refine Own.aloadN W6 d10_14 15 rfl (.ref o1) rfl rfl ?_
      refine Own.iloadN W6 d10_15 16 rfl (2 : Int32) rfl ?_
      refine Own.aaload W6 A1 rfl (by decide) (.ref r2) rfl d10_16 17 rfl ?_
      refine Own.astore W6 d10_17 19 rfl rfl #[.val (.ref x), .val (.ref o1), .val (.int (3 : Int32)), .val (.int (2 : Int32)), .val (.ref r2)] rfl ?_
      refine Own.aload W6 d10_19 21 rfl (.ref r2) rfl rfl ?_
      refine Own.getF W6 (tw hw 71 rfl) Via.refl (lb2.ext X2) d10_21 24 rfl ?_
      intro T7 W7
      refine Own.aloadN W7 d10_24 25 rfl (.ref x) rfl rfl ?_
      refine Own.callV W7 (tw hw 73 rfl) (tw hw 38 rfl) (fun s q => notFace_of_selects (args := #[]) (mvT (s := s) q (tw hw 40 rfl))) (tw hw 40 rfl) (tw hw 39 rfl) (by decide) (argsL := [(.ref x)]) (rest := []) (Own.payEq (wQ hw) (kI := 4) (tw hw 6 rfl) W7 (sb2.ext X2) (Sx.ext X2) hS hcz (len := 3) (wd := 0) (by decide) (by decide)) (xb2.ext X2) rfl (lenOf pd_1 rfl) rfl (Nat.le_of_ble_eq_true rfl) d10_25 28 rfl 1 3 (Nat.le_of_ble_eq_true rfl) (Nat.le_of_ble_eq_true rfl) (Nat.le_of_ble_eq_true rfl) (Nat.le_of_ble_eq_true rfl) ?_
      intro v8 T8 h8 u8 W8 R8 hq
      obtain ⟨hv8, eh8⟩ := hq
      have ei8 := eh8.symm; subst ei8
      rcases hv8 with ⟨rfl, q2⟩ | ⟨rfl, q2⟩
      · skip
        show Own.Go _ _ _ _ _ 28 #[.val (.ref x), .val (.ref o1), .val (.int (3 : Int32)), .val (.int (2 : Int32)), .val (.ref r2)] [(.int (1 : Int32))]
        refine Own.ifNo W8 d10_28 31 (by decide) rfl ?_
        refine Own.aload W8 d10_31 33 rfl (.ref r2) rfl rfl ?_
        exact Own.retA W8 (by decide) (by decide) rfl rfl rfl d10_33 ⟨Or.inr (Or.inr (Or.inl ⟨rfl, fun z => q0 z.symm, fun z => q1 z.symm, q2.symm⟩)), X2⟩
      · skip
        show Own.Go _ _ _ _ _ 28 #[.val (.ref x), .val (.ref o1), .val (.int (3 : Int32)), .val (.int (2 : Int32)), .val (.ref r2)] [(.int (0 : Int32))]
        refine Own.ifYes W8 d10_28 34 (by decide) (by decide) (by decide) ?_
        refine Own.iinc W8 d10_34 37 rfl rfl #[.val (.ref x), .val (.ref o1), .val (.int (3 : Int32)), .val (.int (3 : Int32)), .val (.ref r2)] rfl ?_
        refine Own.goto W8 d10_37 9 (by decide) (by decide) ?_
        refine Own.iloadN W8 d10_9 10 rfl (3 : Int32) rfl ?_
        refine Own.iloadN W8 d10_10 11 rfl (3 : Int32) rfl ?_
        refine Own.icmpYes W8 d10_11 40 (by decide) (by decide) (by decide) ?_
        refine Own.aconstNull W8 d10_40 41 rfl ?_
        exact Own.retA W8 (by decide) (by decide) rfl rfl rfl d10_41 ⟨Or.inr (Or.inr (Or.inr (⟨rfl, fun z => q0 z.symm, fun z => q1 z.symm, fun z => q2 z.symm⟩))), X2⟩
set_option maxRecDepth 65536 in
set_option maxHeartbeats 40000000 in
theorem con_namedN {G : Own.Gl} (hw : ∀ d ∈ tables_1, d.before G.a0 G.Z = true) (hEL : EW G.Z G.a0 G.EL) (hmem : (Own.ST, 7) ∈ G.EL) {cz : Int32} (hS : Sta G.Z G.Z.heap Own.ST "COMPACT_STRINGS" "Z" (.int cz)) (hcz : ¬ cz = 0) {rv r0 r1 r2 l0 l1 l2 : Addr} {kV : ClassId} (TV : Sta G.Z G.Z.heap "com/example/couplet/couplet/core/LocalOverride" "$VALUES" "[Lcom/example/couplet/couplet/core/LocalOverride;" (.ref rv)) (AV : Arv G.Z G.Z.heap rv kV (.object "com/example/couplet/couplet/core/LocalOverride") 3 [(.ref r0), (.ref r1), (.ref r2)] .null) (XV : Exa G.Z G.Z.heap rv "[Lcom/example/couplet/couplet/core/LocalOverride;") (TE0 : Sta G.Z G.Z.heap "com/example/couplet/couplet/core/LocalOverride" "HOLD" "Lcom/example/couplet/couplet/core/LocalOverride;" (.ref r0)) (LE0 : Fld G.Z G.Z.heap r0 "com/example/couplet/couplet/core/LocalOverride" "label" "Ljava/lang/String;" (.ref l0)) (SE0 : Own.Str G.Z G.Z.heap l0 [(104 : Int32), (111 : Int32), (108 : Int32), (100 : Int32)]) (TE1 : Sta G.Z G.Z.heap "com/example/couplet/couplet/core/LocalOverride" "KEEP" "Lcom/example/couplet/couplet/core/LocalOverride;" (.ref r1)) (LE1 : Fld G.Z G.Z.heap r1 "com/example/couplet/couplet/core/LocalOverride" "label" "Ljava/lang/String;" (.ref l1)) (SE1 : Own.Str G.Z G.Z.heap l1 [(107 : Int32), (101 : Int32), (101 : Int32), (112 : Int32)]) (TE2 : Sta G.Z G.Z.heap "com/example/couplet/couplet/core/LocalOverride" "NONE" "Lcom/example/couplet/couplet/core/LocalOverride;" (.ref r2)) (LE2 : Fld G.Z G.Z.heap r2 "com/example/couplet/couplet/core/LocalOverride" "label" "Ljava/lang/String;" (.ref l2)) (SE2 : Own.Str G.Z G.Z.heap l2 [(110 : Int32), (111 : Int32), (110 : Int32), (101 : Int32)]) {h : Heap} (hO : Old G.Z G.n0 h) :
    Own.Con G [] bNamed #[.null] h [] (fun v h' => v = some .null ∧ Ext h h') := by
  refine Own.Con.intro (plainFor_of_name pn_0) hO hEL _ (fun m => ef_namedN m ) ?_
  intro X T0 W0 sf
  have lb0 := LE0.ext W0.old.2
  have sb0 := SE0.ext W0.old.2
  have xb0 := sb0.exa
  have lb1 := LE1.ext W0.old.2
  have sb1 := SE1.ext W0.old.2
  have xb1 := sb1.exa
  have lb2 := LE2.ext W0.old.2
  have sb2 := SE2.ext W0.old.2
  have xb2 := sb2.exa
  refine Own.callS W0 (tw hw 53 rfl) (tw hw 54 rfl) (tw hw 51 rfl) (tw hw 55 rfl) (by decide) (argsL := []) (rest := []) (Own.Con.pay (con_vals hw hEL TV AV XV TE0 LE0 SE0 TE1 LE1 SE1 TE2 LE2 SE2 W0.old) W0 (tw hw 55 rfl) (tw hw 51 rfl) (len := 3) (wd := 0) (by decide) (by decide) (fun _ q => nomatch q)) rfl (lenOf pd_0 rfl) rfl (Nat.le_of_ble_eq_true rfl) d10_0 3 rfl 1 3 (Nat.le_of_ble_eq_true rfl) (Nat.le_of_ble_eq_true rfl) (Nat.le_of_ble_eq_true rfl) (Nat.le_of_ble_eq_true rfl) ?_
  intro v1 T1 h1 u1 W1 R1 hq
  obtain ⟨o1, rfl, E1, g1, A1⟩ := hq
  show Own.Go _ _ _ _ _ 3 #[.val .null, .unset, .unset, .unset, .unset] [(.ref o1)]
  refine Own.astoreN W1 d10_3 4 rfl rfl #[.val .null, .val (.ref o1), .unset, .unset, .unset] rfl ?_
  refine Own.aloadN W1 d10_4 5 rfl (.ref o1) rfl rfl ?_
  refine Own.arrlen W1 A1 d10_5 6 rfl ?_
  refine Own.istoreN W1 d10_6 7 rfl #[.val .null, .val (.ref o1), .val (.int (3 : Int32)), .unset, .unset] rfl ?_
  refine Own.iconst W1 d10_7 8 rfl (0 : Int32) rfl ?_
  refine Own.istoreN W1 d10_8 9 rfl #[.val .null, .val (.ref o1), .val (.int (3 : Int32)), .val (.int (0 : Int32)), .unset] rfl ?_
  refine Own.iloadN W1 d10_9 10 rfl (0 : Int32) rfl ?_
  refine Own.iloadN W1 d10_10 11 rfl (3 : Int32) rfl ?_
  refine Own.icmpNo W1 d10_11 14 (by decide) rfl ?_
  refine Own.aloadN W1 d10_14 15 rfl (.ref o1) rfl rfl ?_
  refine Own.iloadN W1 d10_15 16 rfl (0 : Int32) rfl ?_
  refine Own.aaload W1 A1 rfl (by decide) (.ref r0) rfl d10_16 17 rfl ?_
  refine Own.astore W1 d10_17 19 rfl rfl #[.val .null, .val (.ref o1), .val (.int (3 : Int32)), .val (.int (0 : Int32)), .val (.ref r0)] rfl ?_
  refine Own.aload W1 d10_19 21 rfl (.ref r0) rfl rfl ?_
  have X2 : Ext h h1 := E1
  refine Own.getF W1 (tw hw 71 rfl) Via.refl (lb0.ext X2) d10_21 24 rfl ?_
  intro T3 W3
  refine Own.aloadN W3 d10_24 25 rfl .null rfl rfl ?_
  refine Own.callV W3 (tw hw 73 rfl) (tw hw 38 rfl) (fun s q => notFace_of_selects (args := #[]) (mvT (s := s) q (tw hw 40 rfl))) (tw hw 40 rfl) (tw hw 39 rfl) (by decide) (argsL := [.null]) (rest := []) (Own.Con.pay (con_seqn hw hEL W3.old) W3 (tw hw 41 rfl) (tw hw 7 rfl) (len := 3) (wd := 0) (by decide) (by decide) (fun _ q => nomatch q)) (xb0.ext X2) rfl (lenOf pd_1 rfl) rfl (Nat.le_of_ble_eq_true rfl) d10_25 28 rfl 1 3 (Nat.le_of_ble_eq_true rfl) (Nat.le_of_ble_eq_true rfl) (Nat.le_of_ble_eq_true rfl) (Nat.le_of_ble_eq_true rfl) ?_
  intro v4 T4 h4 u4 W4 R4 hq
  obtain ⟨rfl, eh4⟩ := hq
  have ei4 := eh4.symm; subst ei4
  show Own.Go _ _ _ _ _ 28 #[.val .null, .val (.ref o1), .val (.int (3 : Int32)), .val (.int (0 : Int32)), .val (.ref r0)] [(.int (0 : Int32))]
  refine Own.ifYes W4 d10_28 34 (by decide) (by decide) (by decide) ?_
  refine Own.iinc W4 d10_34 37 rfl rfl #[.val .null, .val (.ref o1), .val (.int (3 : Int32)), .val (.int (1 : Int32)), .val (.ref r0)] rfl ?_
  refine Own.goto W4 d10_37 9 (by decide) (by decide) ?_
  refine Own.iloadN W4 d10_9 10 rfl (1 : Int32) rfl ?_
  refine Own.iloadN W4 d10_10 11 rfl (3 : Int32) rfl ?_
  refine Own.icmpNo W4 d10_11 14 (by decide) rfl ?_
  refine Own.aloadN W4 d10_14 15 rfl (.ref o1) rfl rfl ?_
  refine Own.iloadN W4 d10_15 16 rfl (1 : Int32) rfl ?_
  refine Own.aaload W4 A1 rfl (by decide) (.ref r1) rfl d10_16 17 rfl ?_
  refine Own.astore W4 d10_17 19 rfl rfl #[.val .null, .val (.ref o1), .val (.int (3 : Int32)), .val (.int (1 : Int32)), .val (.ref r1)] rfl ?_
  refine Own.aload W4 d10_19 21 rfl (.ref r1) rfl rfl ?_
  refine Own.getF W4 (tw hw 71 rfl) Via.refl (lb1.ext X2) d10_21 24 rfl ?_
  intro T5 W5
  refine Own.aloadN W5 d10_24 25 rfl .null rfl rfl ?_
  refine Own.callV W5 (tw hw 73 rfl) (tw hw 38 rfl) (fun s q => notFace_of_selects (args := #[]) (mvT (s := s) q (tw hw 40 rfl))) (tw hw 40 rfl) (tw hw 39 rfl) (by decide) (argsL := [.null]) (rest := []) (Own.Con.pay (con_seqn hw hEL W5.old) W5 (tw hw 41 rfl) (tw hw 7 rfl) (len := 3) (wd := 0) (by decide) (by decide) (fun _ q => nomatch q)) (xb1.ext X2) rfl (lenOf pd_1 rfl) rfl (Nat.le_of_ble_eq_true rfl) d10_25 28 rfl 1 3 (Nat.le_of_ble_eq_true rfl) (Nat.le_of_ble_eq_true rfl) (Nat.le_of_ble_eq_true rfl) (Nat.le_of_ble_eq_true rfl) ?_
  intro v6 T6 h6 u6 W6 R6 hq
  obtain ⟨rfl, eh6⟩ := hq
  have ei6 := eh6.symm; subst ei6
  show Own.Go _ _ _ _ _ 28 #[.val .null, .val (.ref o1), .val (.int (3 : Int32)), .val (.int (1 : Int32)), .val (.ref r1)] [(.int (0 : Int32))]
  refine Own.ifYes W6 d10_28 34 (by decide) (by decide) (by decide) ?_
  refine Own.iinc W6 d10_34 37 rfl rfl #[.val .null, .val (.ref o1), .val (.int (3 : Int32)), .val (.int (2 : Int32)), .val (.ref r1)] rfl ?_
  refine Own.goto W6 d10_37 9 (by decide) (by decide) ?_
  refine Own.iloadN W6 d10_9 10 rfl (2 : Int32) rfl ?_
  refine Own.iloadN W6 d10_10 11 rfl (3 : Int32) rfl ?_
  refine Own.icmpNo W6 d10_11 14 (by decide) rfl ?_
  refine Own.aloadN W6 d10_14 15 rfl (.ref o1) rfl rfl ?_
  refine Own.iloadN W6 d10_15 16 rfl (2 : Int32) rfl ?_
  refine Own.aaload W6 A1 rfl (by decide) (.ref r2) rfl d10_16 17 rfl ?_
  refine Own.astore W6 d10_17 19 rfl rfl #[.val .null, .val (.ref o1), .val (.int (3 : Int32)), .val (.int (2 : Int32)), .val (.ref r2)] rfl ?_
  refine Own.aload W6 d10_19 21 rfl (.ref r2) rfl rfl ?_
  refine Own.getF W6 (tw hw 71 rfl) Via.refl (lb2.ext X2) d10_21 24 rfl ?_
  intro T7 W7
  refine Own.aloadN W7 d10_24 25 rfl .null rfl rfl ?_
  refine Own.callV W7 (tw hw 73 rfl) (tw hw 38 rfl) (fun s q => notFace_of_selects (args := #[]) (mvT (s := s) q (tw hw 40 rfl))) (tw hw 40 rfl) (tw hw 39 rfl) (by decide) (argsL := [.null]) (rest := []) (Own.Con.pay (con_seqn hw hEL W7.old) W7 (tw hw 41 rfl) (tw hw 7 rfl) (len := 3) (wd := 0) (by decide) (by decide) (fun _ q => nomatch q)) (xb2.ext X2) rfl (lenOf pd_1 rfl) rfl (Nat.le_of_ble_eq_true rfl) d10_25 28 rfl 1 3 (Nat.le_of_ble_eq_true rfl) (Nat.le_of_ble_eq_true rfl) (Nat.le_of_ble_eq_true rfl) (Nat.le_of_ble_eq_true rfl) ?_
  intro v8 T8 h8 u8 W8 R8 hq
  obtain ⟨rfl, eh8⟩ := hq
  have ei8 := eh8.symm; subst ei8
  show Own.Go _ _ _ _ _ 28 #[.val .null, .val (.ref o1), .val (.int (3 : Int32)), .val (.int (2 : Int32)), .val (.ref r2)] [(.int (0 : Int32))]
  refine Own.ifYes W8 d10_28 34 (by decide) (by decide) (by decide) ?_
  refine Own.iinc W8 d10_34 37 rfl rfl #[.val .null, .val (.ref o1), .val (.int (3 : Int32)), .val (.int (3 : Int32)), .val (.ref r2)] rfl ?_
  refine Own.goto W8 d10_37 9 (by decide) (by decide) ?_
  refine Own.iloadN W8 d10_9 10 rfl (3 : Int32) rfl ?_
  refine Own.iloadN W8 d10_10 11 rfl (3 : Int32) rfl ?_
  refine Own.icmpYes W8 d10_11 40 (by decide) (by decide) (by decide) ?_
  refine Own.aconstNull W8 d10_40 41 rfl ?_
  exact Own.retA W8 (by decide) (by decide) rfl rfl rfl d10_41 ⟨rfl, X2⟩
set_option maxRecDepth 65536 in
set_option maxHeartbeats 40000000 in
theorem con_tmp {G : Own.Gl} (hw : ∀ d ∈ tables_1, d.before G.a0 G.Z = true) (hEL : EW G.Z G.a0 G.EL) (k : Int32) {h : Heap} (hO : Old G.Z G.n0 h) :
    Own.Con G [] bTmp #[.int k] h [] (fun v h' => ∃ o : Addr, v = some (.ref o) ∧ Ext h h' ∧ h.size ≤ o ∧ Own.Chs G.Z h' o 4) := by
  refine Own.Con.intro (plainFor_of_name pn_2) hO hEL _ (fun m => ef_bTmp m k) ?_
  intro X T0 W0 sf
  refine Own.iloadN W0 d12_0 1 rfl k rfl ?_
  by_cases e0 : k = (0 : Int32)
  · skip
    refine Own.ifNo W0 d12_1 4 (XT.i0_ne_f e0) rfl ?_
    refine Own.iconst W0 d12_4 5 rfl (4 : Int32) rfl ?_
    refine Own.newA W0 (tw hw 0 rfl) d12_5 7 rfl (by decide) 4 (by decide) (by decide) 1 4 (by decide) (by decide) (by decide) (by decide) ?_
    intro T1 h1 o1 c1 g1 W1 E1 A1 s1 k1
    have V1 : Arv G.Z h1 o1 c1 .char (4 : Int32) [(.int (0 : Int32)), (.int (0 : Int32)), (.int (0 : Int32)), (.int (0 : Int32))] (.int (0 : Int32)) := A1
    have V2 : Own.Chs G.Z h1 o1 (4 : Int32) := Own.Chs.new (cap := 4) V1 (by decide) (by decide)
    refine Own.dup W1 d12_7 8 rfl rfl ?_
    refine Own.iconst W1 d12_8 9 rfl (0 : Int32) rfl ?_
    refine Own.bipush W1 d12_9 11 rfl (104 : Int32) rfl ?_
    refine Own.castoreC W1 V2 ⟨by decide, by decide⟩ (Nat.le_trans W0.n0 (Nat.le_of_eq g1.symm)) (by unfold Own.Rg; decide) d12_11 12 rfl ?_
    intro T3 h3 W3 Q3 V3 k3
    refine Own.dup W3 d12_12 13 rfl rfl ?_
    refine Own.iconst W3 d12_13 14 rfl (1 : Int32) rfl ?_
    refine Own.bipush W3 d12_14 16 rfl (111 : Int32) rfl ?_
    refine Own.castoreC W3 V3 ⟨by decide, by decide⟩ (Nat.le_trans W0.n0 (Nat.le_of_eq g1.symm)) (by unfold Own.Rg; decide) d12_16 17 rfl ?_
    intro T4 h4 W4 Q4 V4 k4
    refine Own.dup W4 d12_17 18 rfl rfl ?_
    refine Own.iconst W4 d12_18 19 rfl (2 : Int32) rfl ?_
    refine Own.bipush W4 d12_19 21 rfl (108 : Int32) rfl ?_
    refine Own.castoreC W4 V4 ⟨by decide, by decide⟩ (Nat.le_trans W0.n0 (Nat.le_of_eq g1.symm)) (by unfold Own.Rg; decide) d12_21 22 rfl ?_
    intro T5 h5 W5 Q5 V5 k5
    refine Own.dup W5 d12_22 23 rfl rfl ?_
    refine Own.iconst W5 d12_23 24 rfl (3 : Int32) rfl ?_
    refine Own.bipush W5 d12_24 26 rfl (100 : Int32) rfl ?_
    refine Own.castoreC W5 V5 ⟨by decide, by decide⟩ (Nat.le_trans W0.n0 (Nat.le_of_eq g1.symm)) (by unfold Own.Rg; decide) d12_26 27 rfl ?_
    intro T6 h6 W6 Q6 V6 k6
    have X7 : Ext h h1 := E1
    have X8 : Ext h h3 := Own.Ext.wr' X7 Q3 (Nat.le_of_eq g1.symm)
    have X9 : Ext h h4 := Own.Ext.wr' X8 Q4 (Nat.le_of_eq g1.symm)
    have X10 : Ext h h5 := Own.Ext.wr' X9 Q5 (Nat.le_of_eq g1.symm)
    have X11 : Ext h h6 := Own.Ext.wr' X10 Q6 (Nat.le_of_eq g1.symm)
    exact Own.retA W6 (by decide) (by decide) rfl rfl rfl d12_27 ⟨o1, rfl, X11, (Nat.le_of_eq g1.symm), V6⟩
  · skip
    refine Own.ifYes W0 d12_1 28 (XT.i0_ne_t e0) (by decide) (by decide) ?_
    refine Own.iloadN W0 d12_28 29 rfl k rfl ?_
    refine Own.iconst W0 d12_29 30 rfl (1 : Int32) rfl ?_
    by_cases e1 : k = (1 : Int32)
    · skip
      refine Own.icmpNo W0 d12_30 33 (XT.ii_ne_f e1) rfl ?_
      refine Own.iconst W0 d12_33 34 rfl (4 : Int32) rfl ?_
      refine Own.newA W0 (tw hw 0 rfl) d12_34 36 rfl (by decide) 4 (by decide) (by decide) 1 4 (by decide) (by decide) (by decide) (by decide) ?_
      intro T12 h12 o12 c12 g12 W12 E12 A12 s12 k12
      have V12 : Arv G.Z h12 o12 c12 .char (4 : Int32) [(.int (0 : Int32)), (.int (0 : Int32)), (.int (0 : Int32)), (.int (0 : Int32))] (.int (0 : Int32)) := A12
      have V13 : Own.Chs G.Z h12 o12 (4 : Int32) := Own.Chs.new (cap := 4) V12 (by decide) (by decide)
      refine Own.dup W12 d12_36 37 rfl rfl ?_
      refine Own.iconst W12 d12_37 38 rfl (0 : Int32) rfl ?_
      refine Own.bipush W12 d12_38 40 rfl (107 : Int32) rfl ?_
      refine Own.castoreC W12 V13 ⟨by decide, by decide⟩ (Nat.le_trans W0.n0 (Nat.le_of_eq g12.symm)) (by unfold Own.Rg; decide) d12_40 41 rfl ?_
      intro T14 h14 W14 Q14 V14 k14
      refine Own.dup W14 d12_41 42 rfl rfl ?_
      refine Own.iconst W14 d12_42 43 rfl (1 : Int32) rfl ?_
      refine Own.bipush W14 d12_43 45 rfl (101 : Int32) rfl ?_
      refine Own.castoreC W14 V14 ⟨by decide, by decide⟩ (Nat.le_trans W0.n0 (Nat.le_of_eq g12.symm)) (by unfold Own.Rg; decide) d12_45 46 rfl ?_
      intro T15 h15 W15 Q15 V15 k15
      refine Own.dup W15 d12_46 47 rfl rfl ?_
      refine Own.iconst W15 d12_47 48 rfl (2 : Int32) rfl ?_
      refine Own.bipush W15 d12_48 50 rfl (101 : Int32) rfl ?_
      refine Own.castoreC W15 V15 ⟨by decide, by decide⟩ (Nat.le_trans W0.n0 (Nat.le_of_eq g12.symm)) (by unfold Own.Rg; decide) d12_50 51 rfl ?_
      intro T16 h16 W16 Q16 V16 k16
      refine Own.dup W16 d12_51 52 rfl rfl ?_
      refine Own.iconst W16 d12_52 53 rfl (3 : Int32) rfl ?_
      refine Own.bipush W16 d12_53 55 rfl (112 : Int32) rfl ?_
      refine Own.castoreC W16 V16 ⟨by decide, by decide⟩ (Nat.le_trans W0.n0 (Nat.le_of_eq g12.symm)) (by unfold Own.Rg; decide) d12_55 56 rfl ?_
      intro T17 h17 W17 Q17 V17 k17
      have X18 : Ext h h12 := E12
      have X19 : Ext h h14 := Own.Ext.wr' X18 Q14 (Nat.le_of_eq g12.symm)
      have X20 : Ext h h15 := Own.Ext.wr' X19 Q15 (Nat.le_of_eq g12.symm)
      have X21 : Ext h h16 := Own.Ext.wr' X20 Q16 (Nat.le_of_eq g12.symm)
      have X22 : Ext h h17 := Own.Ext.wr' X21 Q17 (Nat.le_of_eq g12.symm)
      exact Own.retA W17 (by decide) (by decide) rfl rfl rfl d12_56 ⟨o12, rfl, X22, (Nat.le_of_eq g12.symm), V17⟩
    · skip
      refine Own.icmpYes W0 d12_30 57 (XT.ii_ne_t e1) (by decide) (by decide) ?_
      refine Own.iconst W0 d12_57 58 rfl (4 : Int32) rfl ?_
      refine Own.newA W0 (tw hw 0 rfl) d12_58 60 rfl (by decide) 4 (by decide) (by decide) 1 4 (by decide) (by decide) (by decide) (by decide) ?_
      intro T23 h23 o23 c23 g23 W23 E23 A23 s23 k23
      have V23 : Arv G.Z h23 o23 c23 .char (4 : Int32) [(.int (0 : Int32)), (.int (0 : Int32)), (.int (0 : Int32)), (.int (0 : Int32))] (.int (0 : Int32)) := A23
      have V24 : Own.Chs G.Z h23 o23 (4 : Int32) := Own.Chs.new (cap := 4) V23 (by decide) (by decide)
      refine Own.dup W23 d12_60 61 rfl rfl ?_
      refine Own.iconst W23 d12_61 62 rfl (0 : Int32) rfl ?_
      refine Own.bipush W23 d12_62 64 rfl (110 : Int32) rfl ?_
      refine Own.castoreC W23 V24 ⟨by decide, by decide⟩ (Nat.le_trans W0.n0 (Nat.le_of_eq g23.symm)) (by unfold Own.Rg; decide) d12_64 65 rfl ?_
      intro T25 h25 W25 Q25 V25 k25
      refine Own.dup W25 d12_65 66 rfl rfl ?_
      refine Own.iconst W25 d12_66 67 rfl (1 : Int32) rfl ?_
      refine Own.bipush W25 d12_67 69 rfl (111 : Int32) rfl ?_
      refine Own.castoreC W25 V25 ⟨by decide, by decide⟩ (Nat.le_trans W0.n0 (Nat.le_of_eq g23.symm)) (by unfold Own.Rg; decide) d12_69 70 rfl ?_
      intro T26 h26 W26 Q26 V26 k26
      refine Own.dup W26 d12_70 71 rfl rfl ?_
      refine Own.iconst W26 d12_71 72 rfl (2 : Int32) rfl ?_
      refine Own.bipush W26 d12_72 74 rfl (110 : Int32) rfl ?_
      refine Own.castoreC W26 V26 ⟨by decide, by decide⟩ (Nat.le_trans W0.n0 (Nat.le_of_eq g23.symm)) (by unfold Own.Rg; decide) d12_74 75 rfl ?_
      intro T27 h27 W27 Q27 V27 k27
      refine Own.dup W27 d12_75 76 rfl rfl ?_
      refine Own.iconst W27 d12_76 77 rfl (3 : Int32) rfl ?_
      refine Own.bipush W27 d12_77 79 rfl (101 : Int32) rfl ?_
      refine Own.castoreC W27 V27 ⟨by decide, by decide⟩ (Nat.le_trans W0.n0 (Nat.le_of_eq g23.symm)) (by unfold Own.Rg; decide) d12_79 80 rfl ?_
      intro T28 h28 W28 Q28 V28 k28
      have X29 : Ext h h23 := E23
      have X30 : Ext h h25 := Own.Ext.wr' X29 Q25 (Nat.le_of_eq g23.symm)
      have X31 : Ext h h26 := Own.Ext.wr' X30 Q26 (Nat.le_of_eq g23.symm)
      have X32 : Ext h h27 := Own.Ext.wr' X31 Q27 (Nat.le_of_eq g23.symm)
      have X33 : Ext h h28 := Own.Ext.wr' X32 Q28 (Nat.le_of_eq g23.symm)
      exact Own.retA W28 (by decide) (by decide) rfl rfl rfl d12_80 ⟨o23, rfl, X33, (Nat.le_of_eq g23.symm), V28⟩
set_option maxRecDepth 65536 in
set_option maxHeartbeats 40000000 in
theorem con_bld {G : Own.Gl} (hw : ∀ d ∈ tables_1, d.before G.a0 G.Z = true) (hEL : EW G.Z G.a0 G.EL) (hmem : (Own.ST, 7) ∈ G.EL) {cz : Int32} (hS : Sta G.Z G.Z.heap Own.ST "COMPACT_STRINGS" "Z" (.int cz)) (hcz : ¬ cz = 0) {bf : Addr} (n : Int32) {h : Heap} (hO : Old G.Z G.n0 h) (AB : Own.Chs G.Z h bf 5) :
    Own.Con G [] bBld #[.ref bf, .int n] h [] (fun v h' => ∃ (o : Addr) (cs : List Int32), v = some (.ref o) ∧ Ext h h' ∧ h.size ≤ o ∧ Own.Str G.Z h' o cs) := by
  refine Own.Con.intro (plainFor_of_name pn_2) hO hEL _ (fun m => ef_bBld m bf n) ?_
  intro X T0 W0 sf
  refine Own.iloadN W0 d1_0 1 rfl n rfl ?_
  by_cases e0 : n = (0 : Int32)
  · skip
    refine Own.ifNo W0 d1_1 4 (XT.i0_ne_f e0) rfl ?_
    refine Own.newO W0 (tw hw 5 rfl) (tw hw 6 rfl) (tw hw 7 rfl) d1_4 7 rfl 1 4 (by decide) (by decide) (by decide) (by decide) ?_
    intro T1 h1 o1 g1 W1 E1 A1 D1 s1 k1
    have F1_coder : Fld G.Z h1 o1 "java/lang/String" "coder" "B" (.int (0 : Int32)) := D1 (Or.inr (tw hw 31 rfl)) (ty := .byte) (by decide)
    have F1_value : Fld G.Z h1 o1 "java/lang/String" "value" "[B" .null := D1 (Or.inr (tw hw 33 rfl)) (ty := (.array .byte)) (by decide)
    refine Own.dup W1 d1_7 8 rfl rfl ?_
    refine Own.iconst W1 d1_8 9 rfl (0 : Int32) rfl ?_
    refine Own.newA W1 (tw hw 0 rfl) d1_9 11 rfl (by decide) 0 (by decide) (by decide) 2 4 (by decide) (by decide) (by decide) (by decide) ?_
    intro T2 h2 o2 c2 g2 W2 E2 A2 s2 k2
    have V2 : Arv G.Z h2 o2 c2 .char (0 : Int32) [] (.int (0 : Int32)) := A2
    have V3 : Own.Chs G.Z h2 o2 (0 : Int32) := Own.Chs.new (cap := 0) V2 (by decide) (by decide)
    have X4 : Ext h1 h2 := E2
    refine Own.callX W2 rfl (tw hw 8 rfl) (tw hw 9 rfl) (tw hw 10 rfl) (by decide) (argsL := [(.ref o2)]) (rest := [(.ref o1)]) (Own.payStrC (wS hw) hEL hmem W2 (cz := cz) (Nat.le_trans W0.n0 (Nat.le_of_eq g1.symm)) (k2 o1 s1) (A1.ext X4) (F1_value.ext X4) (F1_coder.ext X4) V3 0 (by decide) (by decide) hS hcz (len := 3) (wd := 1) (by decide) (by decide)) rfl (lenOf pd_2 rfl) rfl (Nat.le_of_ble_eq_true rfl) d1_11 14 rfl 6 12 (Nat.le_of_ble_eq_true rfl) (Nat.le_of_ble_eq_true rfl) (Nat.le_of_ble_eq_true rfl) (Nat.le_of_ble_eq_true rfl) ?_
    intro v5 T5 h5 u5 W5 R5 hq
    obtain ⟨rfl, K5, cs5, -, F5⟩ := hq
    show Own.Go _ _ _ _ _ 14 #[.val (.ref bf), .val (.int n)] [(.ref o1)]
    have X6 : Ext h h1 := E1
    have X7 : Ext h h2 := Own.Ext.tr X6 E2
    have X8 : Ext h h5 := Own.Ext.kp X7 K5 (allS (Nat.le_of_eq g1.symm) all0)
    exact Own.retA W5 (by decide) (by decide) rfl rfl rfl d1_14 ⟨o1, cs5, rfl, X8, (Nat.le_of_eq g1.symm), F5⟩
  · skip
    refine Own.ifYes W0 d1_1 15 (XT.i0_ne_t e0) (by decide) (by decide) ?_
    refine Own.iloadN W0 d1_15 16 rfl n rfl ?_
    refine Own.iconst W0 d1_16 17 rfl (1 : Int32) rfl ?_
    by_cases e1 : n = (1 : Int32)
    · skip
      refine Own.icmpNo W0 d1_17 20 (XT.ii_ne_f e1) rfl ?_
      refine Own.newO W0 (tw hw 5 rfl) (tw hw 6 rfl) (tw hw 7 rfl) d1_20 23 rfl 1 4 (by decide) (by decide) (by decide) (by decide) ?_
      intro T9 h9 o9 g9 W9 E9 A9 D9 s9 k9
      have F9_coder : Fld G.Z h9 o9 "java/lang/String" "coder" "B" (.int (0 : Int32)) := D9 (Or.inr (tw hw 31 rfl)) (ty := .byte) (by decide)
      have F9_value : Fld G.Z h9 o9 "java/lang/String" "value" "[B" .null := D9 (Or.inr (tw hw 33 rfl)) (ty := (.array .byte)) (by decide)
      refine Own.dup W9 d1_23 24 rfl rfl ?_
      refine Own.iconst W9 d1_24 25 rfl (1 : Int32) rfl ?_
      refine Own.newA W9 (tw hw 0 rfl) d1_25 27 rfl (by decide) 1 (by decide) (by decide) 2 5 (by decide) (by decide) (by decide) (by decide) ?_
      intro T10 h10 o10 c10 g10 W10 E10 A10 s10 k10
      have V10 : Arv G.Z h10 o10 c10 .char (1 : Int32) [(.int (0 : Int32))] (.int (0 : Int32)) := A10
      have V11 : Own.Chs G.Z h10 o10 (1 : Int32) := Own.Chs.new (cap := 1) V10 (by decide) (by decide)
      refine Own.dup W10 d1_27 28 rfl rfl ?_
      refine Own.iconst W10 d1_28 29 rfl (0 : Int32) rfl ?_
      refine Own.aloadN W10 d1_29 30 rfl (.ref bf) rfl rfl ?_
      refine Own.iconst W10 d1_30 31 rfl (0 : Int32) rfl ?_
      have X13 : Ext h h9 := E9
      have X14 : Ext h h10 := Own.Ext.tr X13 E10
      refine Own.caloadC W10 (AB.ext X14) ⟨by decide, by decide⟩ d1_31 32 rfl ?_
      intro c12 hc12
      refine Own.castoreC W10 V11 ⟨by decide, by decide⟩ (Nat.le_trans W0.n0 (Nat.le_trans X13.1 (Nat.le_of_eq g10.symm))) hc12 d1_32 33 rfl ?_
      intro T15 h15 W15 Q15 V15 k15
      have X16 : Ext h9 h10 := E10
      have X17 : Ext h9 h15 := Own.Ext.wr' X16 Q15 (Nat.le_of_eq g10.symm)
      refine Own.callX W15 rfl (tw hw 8 rfl) (tw hw 9 rfl) (tw hw 10 rfl) (by decide) (argsL := [(.ref o10)]) (rest := [(.ref o9)]) (Own.payStrC (wS hw) hEL hmem W15 (cz := cz) (Nat.le_trans W0.n0 (Nat.le_of_eq g9.symm)) (k15 o9 (k10 o9 s9)) (A9.ext X17) (F9_value.ext X17) (F9_coder.ext X17) V15 1 (by decide) (by decide) hS hcz (len := 3) (wd := 1) (by decide) (by decide)) rfl (lenOf pd_2 rfl) rfl (Nat.le_of_ble_eq_true rfl) d1_33 36 rfl 6 14 (Nat.le_of_ble_eq_true rfl) (Nat.le_of_ble_eq_true rfl) (Nat.le_of_ble_eq_true rfl) (Nat.le_of_ble_eq_true rfl) ?_
      intro v18 T18 h18 u18 W18 R18 hq
      obtain ⟨rfl, K18, cs18, -, F18⟩ := hq
      show Own.Go _ _ _ _ _ 36 #[.val (.ref bf), .val (.int n)] [(.ref o9)]
      have X19 : Ext h h15 := Own.Ext.wr' X14 Q15 (Nat.le_trans X13.1 (Nat.le_of_eq g10.symm))
      have X20 : Ext h h18 := Own.Ext.kp X19 K18 (allS (Nat.le_of_eq g9.symm) all0)
      exact Own.retA W18 (by decide) (by decide) rfl rfl rfl d1_36 ⟨o9, cs18, rfl, X20, (Nat.le_of_eq g9.symm), F18⟩
    · skip
      refine Own.icmpYes W0 d1_17 37 (XT.ii_ne_t e1) (by decide) (by decide) ?_
      refine Own.iloadN W0 d1_37 38 rfl n rfl ?_
      refine Own.iconst W0 d1_38 39 rfl (2 : Int32) rfl ?_
      by_cases e2 : n = (2 : Int32)
      · skip
        refine Own.icmpNo W0 d1_39 42 (XT.ii_ne_f e2) rfl ?_
        refine Own.newO W0 (tw hw 5 rfl) (tw hw 6 rfl) (tw hw 7 rfl) d1_42 45 rfl 1 4 (by decide) (by decide) (by decide) (by decide) ?_
        intro T21 h21 o21 g21 W21 E21 A21 D21 s21 k21
        have F21_coder : Fld G.Z h21 o21 "java/lang/String" "coder" "B" (.int (0 : Int32)) := D21 (Or.inr (tw hw 31 rfl)) (ty := .byte) (by decide)
        have F21_value : Fld G.Z h21 o21 "java/lang/String" "value" "[B" .null := D21 (Or.inr (tw hw 33 rfl)) (ty := (.array .byte)) (by decide)
        refine Own.dup W21 d1_45 46 rfl rfl ?_
        refine Own.iconst W21 d1_46 47 rfl (2 : Int32) rfl ?_
        refine Own.newA W21 (tw hw 0 rfl) d1_47 49 rfl (by decide) 2 (by decide) (by decide) 2 6 (by decide) (by decide) (by decide) (by decide) ?_
        intro T22 h22 o22 c22 g22 W22 E22 A22 s22 k22
        have V22 : Arv G.Z h22 o22 c22 .char (2 : Int32) [(.int (0 : Int32)), (.int (0 : Int32))] (.int (0 : Int32)) := A22
        have V23 : Own.Chs G.Z h22 o22 (2 : Int32) := Own.Chs.new (cap := 2) V22 (by decide) (by decide)
        refine Own.dup W22 d1_49 50 rfl rfl ?_
        refine Own.iconst W22 d1_50 51 rfl (0 : Int32) rfl ?_
        refine Own.aloadN W22 d1_51 52 rfl (.ref bf) rfl rfl ?_
        refine Own.iconst W22 d1_52 53 rfl (0 : Int32) rfl ?_
        have X25 : Ext h h21 := E21
        have X26 : Ext h h22 := Own.Ext.tr X25 E22
        refine Own.caloadC W22 (AB.ext X26) ⟨by decide, by decide⟩ d1_53 54 rfl ?_
        intro c24 hc24
        refine Own.castoreC W22 V23 ⟨by decide, by decide⟩ (Nat.le_trans W0.n0 (Nat.le_trans X25.1 (Nat.le_of_eq g22.symm))) hc24 d1_54 55 rfl ?_
        intro T27 h27 W27 Q27 V27 k27
        refine Own.dup W27 d1_55 56 rfl rfl ?_
        refine Own.iconst W27 d1_56 57 rfl (1 : Int32) rfl ?_
        refine Own.aloadN W27 d1_57 58 rfl (.ref bf) rfl rfl ?_
        refine Own.iconst W27 d1_58 59 rfl (1 : Int32) rfl ?_
        have X29 : Ext h h27 := Own.Ext.wr' X26 Q27 (Nat.le_trans X25.1 (Nat.le_of_eq g22.symm))
        refine Own.caloadC W27 (AB.ext X29) ⟨by decide, by decide⟩ d1_59 60 rfl ?_
        intro c28 hc28
        refine Own.castoreC W27 V27 ⟨by decide, by decide⟩ (Nat.le_trans W0.n0 (Nat.le_trans X25.1 (Nat.le_of_eq g22.symm))) hc28 d1_60 61 rfl ?_
        intro T30 h30 W30 Q30 V30 k30
        have X31 : Ext h21 h22 := E22
        have X32 : Ext h21 h27 := Own.Ext.wr' X31 Q27 (Nat.le_of_eq g22.symm)
        have X33 : Ext h21 h30 := Own.Ext.wr' X32 Q30 (Nat.le_of_eq g22.symm)
        refine Own.callX W30 rfl (tw hw 8 rfl) (tw hw 9 rfl) (tw hw 10 rfl) (by decide) (argsL := [(.ref o22)]) (rest := [(.ref o21)]) (Own.payStrC (wS hw) hEL hmem W30 (cz := cz) (Nat.le_trans W0.n0 (Nat.le_of_eq g21.symm)) (k30 o21 (k27 o21 (k22 o21 s21))) (A21.ext X33) (F21_value.ext X33) (F21_coder.ext X33) V30 2 (by decide) (by decide) hS hcz (len := 3) (wd := 1) (by decide) (by decide)) rfl (lenOf pd_2 rfl) rfl (Nat.le_of_ble_eq_true rfl) d1_61 64 rfl 6 16 (Nat.le_of_ble_eq_true rfl) (Nat.le_of_ble_eq_true rfl) (Nat.le_of_ble_eq_true rfl) (Nat.le_of_ble_eq_true rfl) ?_
        intro v34 T34 h34 u34 W34 R34 hq
        obtain ⟨rfl, K34, cs34, -, F34⟩ := hq
        show Own.Go _ _ _ _ _ 64 #[.val (.ref bf), .val (.int n)] [(.ref o21)]
        have X35 : Ext h h30 := Own.Ext.wr' X29 Q30 (Nat.le_trans X25.1 (Nat.le_of_eq g22.symm))
        have X36 : Ext h h34 := Own.Ext.kp X35 K34 (allS (Nat.le_of_eq g21.symm) all0)
        exact Own.retA W34 (by decide) (by decide) rfl rfl rfl d1_64 ⟨o21, cs34, rfl, X36, (Nat.le_of_eq g21.symm), F34⟩
      · skip
        refine Own.icmpYes W0 d1_39 65 (XT.ii_ne_t e2) (by decide) (by decide) ?_
        refine Own.iloadN W0 d1_65 66 rfl n rfl ?_
        refine Own.iconst W0 d1_66 67 rfl (3 : Int32) rfl ?_
        by_cases e3 : n = (3 : Int32)
        · skip
          refine Own.icmpNo W0 d1_67 70 (XT.ii_ne_f e3) rfl ?_
          refine Own.newO W0 (tw hw 5 rfl) (tw hw 6 rfl) (tw hw 7 rfl) d1_70 73 rfl 1 4 (by decide) (by decide) (by decide) (by decide) ?_
          intro T37 h37 o37 g37 W37 E37 A37 D37 s37 k37
          have F37_coder : Fld G.Z h37 o37 "java/lang/String" "coder" "B" (.int (0 : Int32)) := D37 (Or.inr (tw hw 31 rfl)) (ty := .byte) (by decide)
          have F37_value : Fld G.Z h37 o37 "java/lang/String" "value" "[B" .null := D37 (Or.inr (tw hw 33 rfl)) (ty := (.array .byte)) (by decide)
          refine Own.dup W37 d1_73 74 rfl rfl ?_
          refine Own.iconst W37 d1_74 75 rfl (3 : Int32) rfl ?_
          refine Own.newA W37 (tw hw 0 rfl) d1_75 77 rfl (by decide) 3 (by decide) (by decide) 2 7 (by decide) (by decide) (by decide) (by decide) ?_
          intro T38 h38 o38 c38 g38 W38 E38 A38 s38 k38
          have V38 : Arv G.Z h38 o38 c38 .char (3 : Int32) [(.int (0 : Int32)), (.int (0 : Int32)), (.int (0 : Int32))] (.int (0 : Int32)) := A38
          have V39 : Own.Chs G.Z h38 o38 (3 : Int32) := Own.Chs.new (cap := 3) V38 (by decide) (by decide)
          refine Own.dup W38 d1_77 78 rfl rfl ?_
          refine Own.iconst W38 d1_78 79 rfl (0 : Int32) rfl ?_
          refine Own.aloadN W38 d1_79 80 rfl (.ref bf) rfl rfl ?_
          refine Own.iconst W38 d1_80 81 rfl (0 : Int32) rfl ?_
          have X41 : Ext h h37 := E37
          have X42 : Ext h h38 := Own.Ext.tr X41 E38
          refine Own.caloadC W38 (AB.ext X42) ⟨by decide, by decide⟩ d1_81 82 rfl ?_
          intro c40 hc40
          refine Own.castoreC W38 V39 ⟨by decide, by decide⟩ (Nat.le_trans W0.n0 (Nat.le_trans X41.1 (Nat.le_of_eq g38.symm))) hc40 d1_82 83 rfl ?_
          intro T43 h43 W43 Q43 V43 k43
          refine Own.dup W43 d1_83 84 rfl rfl ?_
          refine Own.iconst W43 d1_84 85 rfl (1 : Int32) rfl ?_
          refine Own.aloadN W43 d1_85 86 rfl (.ref bf) rfl rfl ?_
          refine Own.iconst W43 d1_86 87 rfl (1 : Int32) rfl ?_
          have X45 : Ext h h43 := Own.Ext.wr' X42 Q43 (Nat.le_trans X41.1 (Nat.le_of_eq g38.symm))
          refine Own.caloadC W43 (AB.ext X45) ⟨by decide, by decide⟩ d1_87 88 rfl ?_
          intro c44 hc44
          refine Own.castoreC W43 V43 ⟨by decide, by decide⟩ (Nat.le_trans W0.n0 (Nat.le_trans X41.1 (Nat.le_of_eq g38.symm))) hc44 d1_88 89 rfl ?_
          intro T46 h46 W46 Q46 V46 k46
          refine Own.dup W46 d1_89 90 rfl rfl ?_
          refine Own.iconst W46 d1_90 91 rfl (2 : Int32) rfl ?_
          refine Own.aloadN W46 d1_91 92 rfl (.ref bf) rfl rfl ?_
          refine Own.iconst W46 d1_92 93 rfl (2 : Int32) rfl ?_
          have X48 : Ext h h46 := Own.Ext.wr' X45 Q46 (Nat.le_trans X41.1 (Nat.le_of_eq g38.symm))
          refine Own.caloadC W46 (AB.ext X48) ⟨by decide, by decide⟩ d1_93 94 rfl ?_
          intro c47 hc47
          refine Own.castoreC W46 V46 ⟨by decide, by decide⟩ (Nat.le_trans W0.n0 (Nat.le_trans X41.1 (Nat.le_of_eq g38.symm))) hc47 d1_94 95 rfl ?_
          intro T49 h49 W49 Q49 V49 k49
          have X50 : Ext h37 h38 := E38
          have X51 : Ext h37 h43 := Own.Ext.wr' X50 Q43 (Nat.le_of_eq g38.symm)
          have X52 : Ext h37 h46 := Own.Ext.wr' X51 Q46 (Nat.le_of_eq g38.symm)
          have X53 : Ext h37 h49 := Own.Ext.wr' X52 Q49 (Nat.le_of_eq g38.symm)
          refine Own.callX W49 rfl (tw hw 8 rfl) (tw hw 9 rfl) (tw hw 10 rfl) (by decide) (argsL := [(.ref o38)]) (rest := [(.ref o37)]) (Own.payStrC (wS hw) hEL hmem W49 (cz := cz) (Nat.le_trans W0.n0 (Nat.le_of_eq g37.symm)) (k49 o37 (k46 o37 (k43 o37 (k38 o37 s37)))) (A37.ext X53) (F37_value.ext X53) (F37_coder.ext X53) V49 3 (by decide) (by decide) hS hcz (len := 3) (wd := 1) (by decide) (by decide)) rfl (lenOf pd_2 rfl) rfl (Nat.le_of_ble_eq_true rfl) d1_95 98 rfl 6 18 (Nat.le_of_ble_eq_true rfl) (Nat.le_of_ble_eq_true rfl) (Nat.le_of_ble_eq_true rfl) (Nat.le_of_ble_eq_true rfl) ?_
          intro v54 T54 h54 u54 W54 R54 hq
          obtain ⟨rfl, K54, cs54, -, F54⟩ := hq
          show Own.Go _ _ _ _ _ 98 #[.val (.ref bf), .val (.int n)] [(.ref o37)]
          have X55 : Ext h h49 := Own.Ext.wr' X48 Q49 (Nat.le_trans X41.1 (Nat.le_of_eq g38.symm))
          have X56 : Ext h h54 := Own.Ext.kp X55 K54 (allS (Nat.le_of_eq g37.symm) all0)
          exact Own.retA W54 (by decide) (by decide) rfl rfl rfl d1_98 ⟨o37, cs54, rfl, X56, (Nat.le_of_eq g37.symm), F54⟩
        · skip
          refine Own.icmpYes W0 d1_67 99 (XT.ii_ne_t e3) (by decide) (by decide) ?_
          refine Own.iloadN W0 d1_99 100 rfl n rfl ?_
          refine Own.iconst W0 d1_100 101 rfl (4 : Int32) rfl ?_
          by_cases e4 : n = (4 : Int32)
          · skip
            refine Own.icmpNo W0 d1_101 104 (XT.ii_ne_f e4) rfl ?_
            refine Own.newO W0 (tw hw 5 rfl) (tw hw 6 rfl) (tw hw 7 rfl) d1_104 107 rfl 1 4 (by decide) (by decide) (by decide) (by decide) ?_
            intro T57 h57 o57 g57 W57 E57 A57 D57 s57 k57
            have F57_coder : Fld G.Z h57 o57 "java/lang/String" "coder" "B" (.int (0 : Int32)) := D57 (Or.inr (tw hw 31 rfl)) (ty := .byte) (by decide)
            have F57_value : Fld G.Z h57 o57 "java/lang/String" "value" "[B" .null := D57 (Or.inr (tw hw 33 rfl)) (ty := (.array .byte)) (by decide)
            refine Own.dup W57 d1_107 108 rfl rfl ?_
            refine Own.iconst W57 d1_108 109 rfl (4 : Int32) rfl ?_
            refine Own.newA W57 (tw hw 0 rfl) d1_109 111 rfl (by decide) 4 (by decide) (by decide) 2 8 (by decide) (by decide) (by decide) (by decide) ?_
            intro T58 h58 o58 c58 g58 W58 E58 A58 s58 k58
            have V58 : Arv G.Z h58 o58 c58 .char (4 : Int32) [(.int (0 : Int32)), (.int (0 : Int32)), (.int (0 : Int32)), (.int (0 : Int32))] (.int (0 : Int32)) := A58
            have V59 : Own.Chs G.Z h58 o58 (4 : Int32) := Own.Chs.new (cap := 4) V58 (by decide) (by decide)
            refine Own.dup W58 d1_111 112 rfl rfl ?_
            refine Own.iconst W58 d1_112 113 rfl (0 : Int32) rfl ?_
            refine Own.aloadN W58 d1_113 114 rfl (.ref bf) rfl rfl ?_
            refine Own.iconst W58 d1_114 115 rfl (0 : Int32) rfl ?_
            have X61 : Ext h h57 := E57
            have X62 : Ext h h58 := Own.Ext.tr X61 E58
            refine Own.caloadC W58 (AB.ext X62) ⟨by decide, by decide⟩ d1_115 116 rfl ?_
            intro c60 hc60
            refine Own.castoreC W58 V59 ⟨by decide, by decide⟩ (Nat.le_trans W0.n0 (Nat.le_trans X61.1 (Nat.le_of_eq g58.symm))) hc60 d1_116 117 rfl ?_
            intro T63 h63 W63 Q63 V63 k63
            refine Own.dup W63 d1_117 118 rfl rfl ?_
            refine Own.iconst W63 d1_118 119 rfl (1 : Int32) rfl ?_
            refine Own.aloadN W63 d1_119 120 rfl (.ref bf) rfl rfl ?_
            refine Own.iconst W63 d1_120 121 rfl (1 : Int32) rfl ?_
            have X65 : Ext h h63 := Own.Ext.wr' X62 Q63 (Nat.le_trans X61.1 (Nat.le_of_eq g58.symm))
            refine Own.caloadC W63 (AB.ext X65) ⟨by decide, by decide⟩ d1_121 122 rfl ?_
            intro c64 hc64
            refine Own.castoreC W63 V63 ⟨by decide, by decide⟩ (Nat.le_trans W0.n0 (Nat.le_trans X61.1 (Nat.le_of_eq g58.symm))) hc64 d1_122 123 rfl ?_
            intro T66 h66 W66 Q66 V66 k66
            refine Own.dup W66 d1_123 124 rfl rfl ?_
            refine Own.iconst W66 d1_124 125 rfl (2 : Int32) rfl ?_
            refine Own.aloadN W66 d1_125 126 rfl (.ref bf) rfl rfl ?_
            refine Own.iconst W66 d1_126 127 rfl (2 : Int32) rfl ?_
            have X68 : Ext h h66 := Own.Ext.wr' X65 Q66 (Nat.le_trans X61.1 (Nat.le_of_eq g58.symm))
            refine Own.caloadC W66 (AB.ext X68) ⟨by decide, by decide⟩ d1_127 128 rfl ?_
            intro c67 hc67
            refine Own.castoreC W66 V66 ⟨by decide, by decide⟩ (Nat.le_trans W0.n0 (Nat.le_trans X61.1 (Nat.le_of_eq g58.symm))) hc67 d1_128 129 rfl ?_
            intro T69 h69 W69 Q69 V69 k69
            refine Own.dup W69 d1_129 130 rfl rfl ?_
            refine Own.iconst W69 d1_130 131 rfl (3 : Int32) rfl ?_
            refine Own.aloadN W69 d1_131 132 rfl (.ref bf) rfl rfl ?_
            refine Own.iconst W69 d1_132 133 rfl (3 : Int32) rfl ?_
            have X71 : Ext h h69 := Own.Ext.wr' X68 Q69 (Nat.le_trans X61.1 (Nat.le_of_eq g58.symm))
            refine Own.caloadC W69 (AB.ext X71) ⟨by decide, by decide⟩ d1_133 134 rfl ?_
            intro c70 hc70
            refine Own.castoreC W69 V69 ⟨by decide, by decide⟩ (Nat.le_trans W0.n0 (Nat.le_trans X61.1 (Nat.le_of_eq g58.symm))) hc70 d1_134 135 rfl ?_
            intro T72 h72 W72 Q72 V72 k72
            have X73 : Ext h57 h58 := E58
            have X74 : Ext h57 h63 := Own.Ext.wr' X73 Q63 (Nat.le_of_eq g58.symm)
            have X75 : Ext h57 h66 := Own.Ext.wr' X74 Q66 (Nat.le_of_eq g58.symm)
            have X76 : Ext h57 h69 := Own.Ext.wr' X75 Q69 (Nat.le_of_eq g58.symm)
            have X77 : Ext h57 h72 := Own.Ext.wr' X76 Q72 (Nat.le_of_eq g58.symm)
            refine Own.callX W72 rfl (tw hw 8 rfl) (tw hw 9 rfl) (tw hw 10 rfl) (by decide) (argsL := [(.ref o58)]) (rest := [(.ref o57)]) (Own.payStrC (wS hw) hEL hmem W72 (cz := cz) (Nat.le_trans W0.n0 (Nat.le_of_eq g57.symm)) (k72 o57 (k69 o57 (k66 o57 (k63 o57 (k58 o57 s57))))) (A57.ext X77) (F57_value.ext X77) (F57_coder.ext X77) V72 4 (by decide) (by decide) hS hcz (len := 3) (wd := 1) (by decide) (by decide)) rfl (lenOf pd_2 rfl) rfl (Nat.le_of_ble_eq_true rfl) d1_135 138 rfl 6 20 (Nat.le_of_ble_eq_true rfl) (Nat.le_of_ble_eq_true rfl) (Nat.le_of_ble_eq_true rfl) (Nat.le_of_ble_eq_true rfl) ?_
            intro v78 T78 h78 u78 W78 R78 hq
            obtain ⟨rfl, K78, cs78, -, F78⟩ := hq
            show Own.Go _ _ _ _ _ 138 #[.val (.ref bf), .val (.int n)] [(.ref o57)]
            have X79 : Ext h h72 := Own.Ext.wr' X71 Q72 (Nat.le_trans X61.1 (Nat.le_of_eq g58.symm))
            have X80 : Ext h h78 := Own.Ext.kp X79 K78 (allS (Nat.le_of_eq g57.symm) all0)
            exact Own.retA W78 (by decide) (by decide) rfl rfl rfl d1_138 ⟨o57, cs78, rfl, X80, (Nat.le_of_eq g57.symm), F78⟩
          · skip
            refine Own.icmpYes W0 d1_101 139 (XT.ii_ne_t e4) (by decide) (by decide) ?_
            refine Own.newO W0 (tw hw 5 rfl) (tw hw 6 rfl) (tw hw 7 rfl) d1_139 142 rfl 1 4 (by decide) (by decide) (by decide) (by decide) ?_
            intro T81 h81 o81 g81 W81 E81 A81 D81 s81 k81
            have F81_coder : Fld G.Z h81 o81 "java/lang/String" "coder" "B" (.int (0 : Int32)) := D81 (Or.inr (tw hw 31 rfl)) (ty := .byte) (by decide)
            have F81_value : Fld G.Z h81 o81 "java/lang/String" "value" "[B" .null := D81 (Or.inr (tw hw 33 rfl)) (ty := (.array .byte)) (by decide)
            refine Own.dup W81 d1_142 143 rfl rfl ?_
            refine Own.iconst W81 d1_143 144 rfl (5 : Int32) rfl ?_
            refine Own.newA W81 (tw hw 0 rfl) d1_144 146 rfl (by decide) 5 (by decide) (by decide) 2 9 (by decide) (by decide) (by decide) (by decide) ?_
            intro T82 h82 o82 c82 g82 W82 E82 A82 s82 k82
            have V82 : Arv G.Z h82 o82 c82 .char (5 : Int32) [(.int (0 : Int32)), (.int (0 : Int32)), (.int (0 : Int32)), (.int (0 : Int32)), (.int (0 : Int32))] (.int (0 : Int32)) := A82
            have V83 : Own.Chs G.Z h82 o82 (5 : Int32) := Own.Chs.new (cap := 5) V82 (by decide) (by decide)
            refine Own.dup W82 d1_146 147 rfl rfl ?_
            refine Own.iconst W82 d1_147 148 rfl (0 : Int32) rfl ?_
            refine Own.aloadN W82 d1_148 149 rfl (.ref bf) rfl rfl ?_
            refine Own.iconst W82 d1_149 150 rfl (0 : Int32) rfl ?_
            have X85 : Ext h h81 := E81
            have X86 : Ext h h82 := Own.Ext.tr X85 E82
            refine Own.caloadC W82 (AB.ext X86) ⟨by decide, by decide⟩ d1_150 151 rfl ?_
            intro c84 hc84
            refine Own.castoreC W82 V83 ⟨by decide, by decide⟩ (Nat.le_trans W0.n0 (Nat.le_trans X85.1 (Nat.le_of_eq g82.symm))) hc84 d1_151 152 rfl ?_
            intro T87 h87 W87 Q87 V87 k87
            refine Own.dup W87 d1_152 153 rfl rfl ?_
            refine Own.iconst W87 d1_153 154 rfl (1 : Int32) rfl ?_
            refine Own.aloadN W87 d1_154 155 rfl (.ref bf) rfl rfl ?_
            refine Own.iconst W87 d1_155 156 rfl (1 : Int32) rfl ?_
            have X89 : Ext h h87 := Own.Ext.wr' X86 Q87 (Nat.le_trans X85.1 (Nat.le_of_eq g82.symm))
            refine Own.caloadC W87 (AB.ext X89) ⟨by decide, by decide⟩ d1_156 157 rfl ?_
            intro c88 hc88
            refine Own.castoreC W87 V87 ⟨by decide, by decide⟩ (Nat.le_trans W0.n0 (Nat.le_trans X85.1 (Nat.le_of_eq g82.symm))) hc88 d1_157 158 rfl ?_
            intro T90 h90 W90 Q90 V90 k90
            refine Own.dup W90 d1_158 159 rfl rfl ?_
            refine Own.iconst W90 d1_159 160 rfl (2 : Int32) rfl ?_
            refine Own.aloadN W90 d1_160 161 rfl (.ref bf) rfl rfl ?_
            refine Own.iconst W90 d1_161 162 rfl (2 : Int32) rfl ?_
            have X92 : Ext h h90 := Own.Ext.wr' X89 Q90 (Nat.le_trans X85.1 (Nat.le_of_eq g82.symm))
            refine Own.caloadC W90 (AB.ext X92) ⟨by decide, by decide⟩ d1_162 163 rfl ?_
            intro c91 hc91
            refine Own.castoreC W90 V90 ⟨by decide, by decide⟩ (Nat.le_trans W0.n0 (Nat.le_trans X85.1 (Nat.le_of_eq g82.symm))) hc91 d1_163 164 rfl ?_
            intro T93 h93 W93 Q93 V93 k93
            refine Own.dup W93 d1_164 165 rfl rfl ?_
            refine Own.iconst W93 d1_165 166 rfl (3 : Int32) rfl ?_
            refine Own.aloadN W93 d1_166 167 rfl (.ref bf) rfl rfl ?_
            refine Own.iconst W93 d1_167 168 rfl (3 : Int32) rfl ?_
            have X95 : Ext h h93 := Own.Ext.wr' X92 Q93 (Nat.le_trans X85.1 (Nat.le_of_eq g82.symm))
            refine Own.caloadC W93 (AB.ext X95) ⟨by decide, by decide⟩ d1_168 169 rfl ?_
            intro c94 hc94
            refine Own.castoreC W93 V93 ⟨by decide, by decide⟩ (Nat.le_trans W0.n0 (Nat.le_trans X85.1 (Nat.le_of_eq g82.symm))) hc94 d1_169 170 rfl ?_
            intro T96 h96 W96 Q96 V96 k96
            refine Own.dup W96 d1_170 171 rfl rfl ?_
            refine Own.iconst W96 d1_171 172 rfl (4 : Int32) rfl ?_
            refine Own.aloadN W96 d1_172 173 rfl (.ref bf) rfl rfl ?_
            refine Own.iconst W96 d1_173 174 rfl (4 : Int32) rfl ?_
            have X98 : Ext h h96 := Own.Ext.wr' X95 Q96 (Nat.le_trans X85.1 (Nat.le_of_eq g82.symm))
            refine Own.caloadC W96 (AB.ext X98) ⟨by decide, by decide⟩ d1_174 175 rfl ?_
            intro c97 hc97
            refine Own.castoreC W96 V96 ⟨by decide, by decide⟩ (Nat.le_trans W0.n0 (Nat.le_trans X85.1 (Nat.le_of_eq g82.symm))) hc97 d1_175 176 rfl ?_
            intro T99 h99 W99 Q99 V99 k99
            have X100 : Ext h81 h82 := E82
            have X101 : Ext h81 h87 := Own.Ext.wr' X100 Q87 (Nat.le_of_eq g82.symm)
            have X102 : Ext h81 h90 := Own.Ext.wr' X101 Q90 (Nat.le_of_eq g82.symm)
            have X103 : Ext h81 h93 := Own.Ext.wr' X102 Q93 (Nat.le_of_eq g82.symm)
            have X104 : Ext h81 h96 := Own.Ext.wr' X103 Q96 (Nat.le_of_eq g82.symm)
            have X105 : Ext h81 h99 := Own.Ext.wr' X104 Q99 (Nat.le_of_eq g82.symm)
            refine Own.callX W99 rfl (tw hw 8 rfl) (tw hw 9 rfl) (tw hw 10 rfl) (by decide) (argsL := [(.ref o82)]) (rest := [(.ref o81)]) (Own.payStrC (wS hw) hEL hmem W99 (cz := cz) (Nat.le_trans W0.n0 (Nat.le_of_eq g81.symm)) (k99 o81 (k96 o81 (k93 o81 (k90 o81 (k87 o81 (k82 o81 s81)))))) (A81.ext X105) (F81_value.ext X105) (F81_coder.ext X105) V99 5 (by decide) (by decide) hS hcz (len := 3) (wd := 1) (by decide) (by decide)) rfl (lenOf pd_2 rfl) rfl (Nat.le_of_ble_eq_true rfl) d1_176 179 rfl 6 22 (Nat.le_of_ble_eq_true rfl) (Nat.le_of_ble_eq_true rfl) (Nat.le_of_ble_eq_true rfl) (Nat.le_of_ble_eq_true rfl) ?_
            intro v106 T106 h106 u106 W106 R106 hq
            obtain ⟨rfl, K106, cs106, -, F106⟩ := hq
            show Own.Go _ _ _ _ _ 179 #[.val (.ref bf), .val (.int n)] [(.ref o81)]
            have X107 : Ext h h99 := Own.Ext.wr' X98 Q99 (Nat.le_trans X85.1 (Nat.le_of_eq g82.symm))
            have X108 : Ext h h106 := Own.Ext.kp X107 K106 (allS (Nat.le_of_eq g81.symm) all0)
            exact Own.retA W106 (by decide) (by decide) rfl rfl rfl d1_179 ⟨o81, cs106, rfl, X108, (Nat.le_of_eq g81.symm), F106⟩
set_option maxRecDepth 65536 in
set_option maxHeartbeats 40000000 in
theorem con_law {G : Own.Gl} (hw : ∀ d ∈ tables_1, d.before G.a0 G.Z = true) (hEL : EW G.Z G.a0 G.EL) (hmem : (Own.ST, 7) ∈ G.EL) {cz : Int32} (hS : Sta G.Z G.Z.heap Own.ST "COMPACT_STRINGS" "Z" (.int cz)) (hcz : ¬ cz = 0) (hE : G.EL = consts_1) {rv r0 r1 r2 l0 l1 l2 : Addr} {kV : ClassId} (TV : Sta G.Z G.Z.heap "com/example/couplet/couplet/core/LocalOverride" "$VALUES" "[Lcom/example/couplet/couplet/core/LocalOverride;" (.ref rv)) (AV : Arv G.Z G.Z.heap rv kV (.object "com/example/couplet/couplet/core/LocalOverride") 3 [(.ref r0), (.ref r1), (.ref r2)] .null) (XV : Exa G.Z G.Z.heap rv "[Lcom/example/couplet/couplet/core/LocalOverride;") (TE0 : Sta G.Z G.Z.heap "com/example/couplet/couplet/core/LocalOverride" "HOLD" "Lcom/example/couplet/couplet/core/LocalOverride;" (.ref r0)) (LE0 : Fld G.Z G.Z.heap r0 "com/example/couplet/couplet/core/LocalOverride" "label" "Ljava/lang/String;" (.ref l0)) (SE0 : Own.Str G.Z G.Z.heap l0 [(104 : Int32), (111 : Int32), (108 : Int32), (100 : Int32)]) (TE1 : Sta G.Z G.Z.heap "com/example/couplet/couplet/core/LocalOverride" "KEEP" "Lcom/example/couplet/couplet/core/LocalOverride;" (.ref r1)) (LE1 : Fld G.Z G.Z.heap r1 "com/example/couplet/couplet/core/LocalOverride" "label" "Ljava/lang/String;" (.ref l1)) (SE1 : Own.Str G.Z G.Z.heap l1 [(107 : Int32), (101 : Int32), (101 : Int32), (112 : Int32)]) (TE2 : Sta G.Z G.Z.heap "com/example/couplet/couplet/core/LocalOverride" "NONE" "Lcom/example/couplet/couplet/core/LocalOverride;" (.ref r2)) (LE2 : Fld G.Z G.Z.heap r2 "com/example/couplet/couplet/core/LocalOverride" "label" "Ljava/lang/String;" (.ref l2)) (SE2 : Own.Str G.Z G.Z.heap l2 [(110 : Int32), (111 : Int32), (110 : Int32), (101 : Int32)]) (p0 : Int32) (p1 : Int32) (p2 : Int32) (p3 : Int32) (p4 : Int32) {h : Heap} (hO : Old G.Z G.n0 h) :
    Own.Con G tables_1 bLaw #[.int p0, .int p1, .int p2, .int p3, .int p4] h [] (fun v h' => v = some (.int 1)) := by
  refine Own.Con.intro (plainFor_of_name pn_2) hO hEL _ (fun m => ef_law m p0 p1 p2 p3 p4) ?_
  intro X T0 W0 sf
  refine Own.iconst W0 at_0 1 rfl (5 : Int32) rfl ?_
  refine Own.newA W0 (tw hw 0 rfl) at_1 3 rfl (by decide) 5 (by decide) (by decide) 1 5 (by decide) (by decide) (by decide) (by decide) ?_
  intro T1 h1 o1 c1 g1 W1 E1 A1 s1 k1
  have V1 : Arv G.Z h1 o1 c1 .char (5 : Int32) [(.int (0 : Int32)), (.int (0 : Int32)), (.int (0 : Int32)), (.int (0 : Int32)), (.int (0 : Int32))] (.int (0 : Int32)) := A1
  have V2 : Own.Chs G.Z h1 o1 (5 : Int32) := Own.Chs.new (cap := 5) V1 (by decide) (by decide)
  refine Own.astore W1 at_3 5 rfl rfl #[.val (.int p0), .val (.int p1), .val (.int p2), .val (.int p3), .val (.int p4), .val (.ref o1), .unset, .unset, .unset] rfl ?_
  refine Own.iloadN W1 at_5 6 rfl p0 rfl ?_
  refine Own.iconst W1 at_6 7 rfl (1 : Int32) rfl ?_
  refine Own.iand W1 at_7 8 rfl ?_
  by_cases e1 : (p0 &&& (1 : Int32)) = (0 : Int32)
  · skip
    refine Own.ifYes W1 at_8 58 (XT.i0_eq_t e1) (by decide) (by decide) ?_
    refine Own.aload W1 at_58 60 rfl (.ref o1) rfl rfl ?_
    refine Own.iconst W1 at_60 61 rfl (0 : Int32) rfl ?_
    refine Own.iloadN W1 at_61 62 rfl p2 rfl ?_
    refine Own.sipush W1 at_62 65 rfl (255 : Int32) rfl ?_
    refine Own.iand W1 at_65 66 rfl ?_
    refine Own.i2c W1 at_66 67 rfl ?_
    refine Own.castoreC W1 V2 ⟨by decide, by decide⟩ (Nat.le_trans W0.n0 (Nat.le_of_eq g1.symm)) (show Own.Rg _ from Own.lo_rng _) at_67 68 rfl ?_
    intro T3 h3 W3 Q3 V3 k3
    refine Own.aload W3 at_68 70 rfl (.ref o1) rfl rfl ?_
    refine Own.iconst W3 at_70 71 rfl (1 : Int32) rfl ?_
    refine Own.iloadN W3 at_71 72 rfl p2 rfl ?_
    refine Own.bipush W3 at_72 74 rfl (8 : Int32) rfl ?_
    refine Own.iushr W3 at_74 75 rfl ?_
    refine Own.sipush W3 at_75 78 rfl (255 : Int32) rfl ?_
    refine Own.iand W3 at_78 79 rfl ?_
    refine Own.i2c W3 at_79 80 rfl ?_
    refine Own.castoreC W3 V3 ⟨by decide, by decide⟩ (Nat.le_trans W0.n0 (Nat.le_of_eq g1.symm)) (show Own.Rg _ from Own.lo_rng _) at_80 81 rfl ?_
    intro T4 h4 W4 Q4 V4 k4
    refine Own.aload W4 at_81 83 rfl (.ref o1) rfl rfl ?_
    refine Own.iconst W4 at_83 84 rfl (2 : Int32) rfl ?_
    refine Own.iloadN W4 at_84 85 rfl p2 rfl ?_
    refine Own.bipush W4 at_85 87 rfl (16 : Int32) rfl ?_
    refine Own.iushr W4 at_87 88 rfl ?_
    refine Own.sipush W4 at_88 91 rfl (255 : Int32) rfl ?_
    refine Own.iand W4 at_91 92 rfl ?_
    refine Own.i2c W4 at_92 93 rfl ?_
    refine Own.castoreC W4 V4 ⟨by decide, by decide⟩ (Nat.le_trans W0.n0 (Nat.le_of_eq g1.symm)) (show Own.Rg _ from Own.lo_rng _) at_93 94 rfl ?_
    intro T5 h5 W5 Q5 V5 k5
    refine Own.aload W5 at_94 96 rfl (.ref o1) rfl rfl ?_
    refine Own.iconst W5 at_96 97 rfl (3 : Int32) rfl ?_
    refine Own.iloadN W5 at_97 98 rfl p2 rfl ?_
    refine Own.bipush W5 at_98 100 rfl (24 : Int32) rfl ?_
    refine Own.iushr W5 at_100 101 rfl ?_
    refine Own.sipush W5 at_101 104 rfl (255 : Int32) rfl ?_
    refine Own.iand W5 at_104 105 rfl ?_
    refine Own.i2c W5 at_105 106 rfl ?_
    refine Own.castoreC W5 V5 ⟨by decide, by decide⟩ (Nat.le_trans W0.n0 (Nat.le_of_eq g1.symm)) (show Own.Rg _ from Own.lo_rng _) at_106 107 rfl ?_
    intro T6 h6 W6 Q6 V6 k6
    refine Own.aload W6 at_107 109 rfl (.ref o1) rfl rfl ?_
    refine Own.iconst W6 at_109 110 rfl (4 : Int32) rfl ?_
    refine Own.iloadN W6 at_110 111 rfl p3 rfl ?_
    refine Own.sipush W6 at_111 114 rfl (255 : Int32) rfl ?_
    refine Own.iand W6 at_114 115 rfl ?_
    refine Own.i2c W6 at_115 116 rfl ?_
    refine Own.castoreC W6 V6 ⟨by decide, by decide⟩ (Nat.le_trans W0.n0 (Nat.le_of_eq g1.symm)) (show Own.Rg _ from Own.lo_rng _) at_116 117 rfl ?_
    intro T7 h7 W7 Q7 V7 k7
    refine Own.iloadN W7 at_117 118 rfl p0 rfl ?_
    refine Own.iconst W7 at_118 119 rfl (2 : Int32) rfl ?_
    refine Own.iand W7 at_119 120 rfl ?_
    by_cases e2 : (p0 &&& (2 : Int32)) = (0 : Int32)
    · skip
      refine Own.ifYes W7 at_120 147 (XT.i0_eq_t e2) (by decide) (by decide) ?_
      refine Own.iloadN W7 at_147 148 rfl p1 rfl ?_
      refine Own.bipush W7 at_148 150 rfl (7 : Int32) rfl ?_
      refine Own.iand W7 at_150 151 rfl ?_
      refine Own.bipush W7 at_151 153 rfl (6 : Int32) rfl ?_
      refine Own.irem W7 at_153 154 rfl (by decide) ?_
      refine Own.istore W7 at_154 156 rfl #[.val (.int p0), .val (.int p1), .val (.int p2), .val (.int p3), .val (.int p4), .val (.ref o1), .val (.int ((p1 &&& (7 : Int32)) % (6 : Int32))), .unset, .unset] rfl ?_
      refine Own.aload W7 at_156 158 rfl (.ref o1) rfl rfl ?_
      refine Own.iload W7 at_158 160 rfl ((p1 &&& (7 : Int32)) % (6 : Int32)) rfl ?_
      refine Own.callS W7 (tw hw 1 rfl) (tw hw 2 rfl) (tw hw 3 rfl) (tw hw 4 rfl) (by decide) (argsL := [(.ref o1), (.int ((p1 &&& (7 : Int32)) % (6 : Int32)))]) (rest := []) (Own.Con.pay (con_bld hw hEL hmem hS hcz ((p1 &&& (7 : Int32)) % (6 : Int32)) W7.old V7) W7 (tw hw 4 rfl) (tw hw 3 rfl) (len := 3) (wd := 0) (by decide) (by decide) (fun _ q => nomatch q)) rfl (lenOf pd_3 rfl) rfl (Nat.le_of_ble_eq_true rfl) at_160 163 rfl 7 27 (Nat.le_of_ble_eq_true rfl) (Nat.le_of_ble_eq_true rfl) (Nat.le_of_ble_eq_true rfl) (Nat.le_of_ble_eq_true rfl) ?_
      intro v8 T8 h8 u8 W8 R8 hq
      obtain ⟨o8, cs8, rfl, E8, g8, F8⟩ := hq
      show Own.Go _ _ _ _ _ 163 #[.val (.int p0), .val (.int p1), .val (.int p2), .val (.int p3), .val (.int p4), .val (.ref o1), .val (.int ((p1 &&& (7 : Int32)) % (6 : Int32))), .unset, .unset] [(.ref o8)]
      refine Own.astore W8 at_163 165 rfl rfl #[.val (.int p0), .val (.int p1), .val (.int p2), .val (.int p3), .val (.int p4), .val (.ref o1), .val (.int ((p1 &&& (7 : Int32)) % (6 : Int32))), .val (.ref o8), .unset] rfl ?_
      refine Own.iloadN W8 at_165 166 rfl p0 rfl ?_
      refine Own.bipush W8 at_166 168 rfl (12 : Int32) rfl ?_
      refine Own.iand W8 at_168 169 rfl ?_
      refine Own.bipush W8 at_169 171 rfl (12 : Int32) rfl ?_
      by_cases hx : (p0 &&& (12 : Int32)) = (12 : Int32)
      · skip
        refine Own.icmpNo W8 at_171 174 (XT.ii_ne_f hx) rfl ?_
        refine Own.aconstNull W8 at_174 175 rfl ?_
        refine Own.astore W8 at_175 177 rfl rfl #[.val (.int p0), .val (.int p1), .val (.int p2), .val (.int p3), .val (.int p4), .val (.ref o1), .val (.int ((p1 &&& (7 : Int32)) % (6 : Int32))), .val .null, .unset] rfl ?_
        refine Own.aconstNull W8 at_177 178 rfl ?_
        refine Own.astore W8 at_178 180 rfl rfl #[.val (.int p0), .val (.int p1), .val (.int p2), .val (.int p3), .val (.int p4), .val (.ref o1), .val (.int ((p1 &&& (7 : Int32)) % (6 : Int32))), .val .null, .val .null] rfl ?_
        refine Own.aload W8 at_180 182 rfl .null rfl rfl ?_
        refine Own.ifnullYes W8 at_182 236 (by decide) (by decide) ?_
        refine Own.aload W8 at_236 238 rfl .null rfl rfl ?_
        refine Own.callS W8 (tw hw 49 rfl) (tw hw 50 rfl) (tw hw 51 rfl) (tw hw 52 rfl) (by decide) (argsL := [.null]) (rest := []) (Own.Con.pay (con_namedN hw hEL hmem hS hcz TV AV XV TE0 LE0 SE0 TE1 LE1 SE1 TE2 LE2 SE2 W8.old) W8 (tw hw 52 rfl) (tw hw 51 rfl) (len := 3) (wd := 0) (by decide) (by decide) (fun _ q => nomatch q)) rfl (lenOf pd_4 rfl) rfl (Nat.le_of_ble_eq_true rfl) at_238 241 rfl 8 30 (Nat.le_of_ble_eq_true rfl) (Nat.le_of_ble_eq_true rfl) (Nat.le_of_ble_eq_true rfl) (Nat.le_of_ble_eq_true rfl) ?_
        intro v9 T9 h9 u9 W9 R9 hq
        obtain ⟨rfl, E9⟩ := hq
        show Own.Go _ _ _ _ _ 241 #[.val (.int p0), .val (.int p1), .val (.int p2), .val (.int p3), .val (.int p4), .val (.ref o1), .val (.int ((p1 &&& (7 : Int32)) % (6 : Int32))), .val .null, .val .null] [.null]
        refine Own.aload W9 at_241 243 rfl .null rfl rfl ?_
        refine Own.acmp W9 at_243 246 rfl rfl true (decide_eq_true rfl) (by decide) rfl ?_
        refine Own.iconst W9 at_246 247 rfl (1 : Int32) rfl ?_
        refine Own.goto W9 at_247 251 (by decide) (by decide) ?_
        exact Own.retB W9 (by decide) (by decide) rfl at_251 rfl rfl
      · skip
        refine Own.icmpYes W8 at_171 177 (XT.ii_ne_t hx) (by decide) (by decide) ?_
        refine Own.aconstNull W8 at_177 178 rfl ?_
        refine Own.astore W8 at_178 180 rfl rfl #[.val (.int p0), .val (.int p1), .val (.int p2), .val (.int p3), .val (.int p4), .val (.ref o1), .val (.int ((p1 &&& (7 : Int32)) % (6 : Int32))), .val (.ref o8), .val .null] rfl ?_
        refine Own.aload W8 at_180 182 rfl (.ref o8) rfl rfl ?_
        refine Own.ifnullNo W8 at_182 185 rfl ?_
        refine Own.aload W8 at_185 187 rfl (.ref o8) rfl rfl ?_
        refine Own.ldcR W8 (tw hw 34 rfl) (Own.sAtoms (wS hw)) (by rw [hE]; decide) (vs := [(.int (104 : Int32)), (.int (111 : Int32)), (.int (108 : Int32)), (.int (100 : Int32))]) (z := (4 : Int32)) ⟨by decide, by decide⟩ (by decide) (by decide) at_187 189 rfl 16 (by decide) (by decide) 9 47 (Nat.le_of_ble_eq_true rfl) (Nat.le_of_ble_eq_true rfl) (Nat.le_of_ble_eq_true rfl) (Nat.le_of_ble_eq_true rfl) ?_
        intro v10 T10 h10 o10 b10 q10 W10 R10 E10 fa10 fc10 fv10 fb10 ne10
        have F10 : Own.Str G.Z h10 o10 [(104 : Int32), (111 : Int32), (108 : Int32), (100 : Int32)] := ⟨fa10, fc10, by decide, by decide, b10, q10, fv10, fb10⟩
        have X12 : Ext h8 h10 := E10
        have ZE11 := (F8.ext X12).exa
        refine Own.callV W10 (tw hw 37 rfl) (tw hw 38 rfl) (fun s q => notFace_of_selects (args := #[]) (mvT (s := s) q (tw hw 40 rfl))) (tw hw 40 rfl) (tw hw 39 rfl) (by decide) (argsL := [(.ref o10)]) (rest := []) (Own.payEq (wQ hw) (kI := 4) (tw hw 6 rfl) W10 (F8.ext X12) F10 hS hcz (len := 3) (wd := 0) (by decide) (by decide)) ZE11 rfl (lenOf pd_1 rfl) rfl (Nat.le_of_ble_eq_true rfl) at_189 192 rfl 9 47 (Nat.le_of_ble_eq_true rfl) (Nat.le_of_ble_eq_true rfl) (Nat.le_of_ble_eq_true rfl) (Nat.le_of_ble_eq_true rfl) ?_
        intro v13 T13 h13 u13 W13 R13 hq
        obtain ⟨hv13, eh13⟩ := hq
        have ei13 := eh13.symm; subst ei13
        rcases hv13 with ⟨rfl, x0⟩ | ⟨rfl, x0⟩
        · skip
          show Own.Go _ _ _ _ _ 192 #[.val (.int p0), .val (.int p1), .val (.int p2), .val (.int p3), .val (.int p4), .val (.ref o1), .val (.int ((p1 &&& (7 : Int32)) % (6 : Int32))), .val (.ref o8), .val .null] [(.int (1 : Int32))]
          refine Own.ifNo W13 at_192 195 (by decide) rfl ?_
          refine Own.getS W13 (tw hw 77 rfl) Via.refl (W13.sta TE0) at_195 198 rfl ?_
          intro T14 W14
          refine Own.astore W14 at_198 200 rfl rfl #[.val (.int p0), .val (.int p1), .val (.int p2), .val (.int p3), .val (.int p4), .val (.ref o1), .val (.int ((p1 &&& (7 : Int32)) % (6 : Int32))), .val (.ref o8), .val (.ref r0)] rfl ?_
          refine Own.goto W14 at_200 236 (by decide) (by decide) ?_
          refine Own.aload W14 at_236 238 rfl (.ref o8) rfl rfl ?_
          refine Own.callS W14 (tw hw 49 rfl) (tw hw 50 rfl) (tw hw 51 rfl) (tw hw 52 rfl) (by decide) (argsL := [(.ref o8)]) (rest := []) (Own.Con.pay (con_named hw hEL hmem hS hcz TV AV XV TE0 LE0 SE0 TE1 LE1 SE1 TE2 LE2 SE2 W14.old (F8.ext X12)) W14 (tw hw 52 rfl) (tw hw 51 rfl) (len := 3) (wd := 0) (by decide) (by decide) (fun _ q => nomatch q)) rfl (lenOf pd_4 rfl) rfl (Nat.le_of_ble_eq_true rfl) at_238 241 rfl 10 50 (Nat.le_of_ble_eq_true rfl) (Nat.le_of_ble_eq_true rfl) (Nat.le_of_ble_eq_true rfl) (Nat.le_of_ble_eq_true rfl) ?_
          intro v15 T15 h15 u15 W15 R15 hq
          obtain ⟨hv15, E15⟩ := hq
          rcases hv15 with ⟨rfl, y0⟩ | ⟨rfl, n0, y1⟩ | ⟨rfl, n0, n1, y2⟩ | ⟨rfl, n0, n1, n2⟩
          · skip
            show Own.Go _ _ _ _ _ 241 #[.val (.int p0), .val (.int p1), .val (.int p2), .val (.int p3), .val (.int p4), .val (.ref o1), .val (.int ((p1 &&& (7 : Int32)) % (6 : Int32))), .val (.ref o8), .val (.ref r0)] [(.ref r0)]
            refine Own.aload W15 at_241 243 rfl (.ref r0) rfl rfl ?_
            refine Own.acmp W15 at_243 246 rfl rfl true (decide_eq_true rfl) (by decide) rfl ?_
            refine Own.iconst W15 at_246 247 rfl (1 : Int32) rfl ?_
            refine Own.goto W15 at_247 251 (by decide) (by decide) ?_
            exact Own.retB W15 (by decide) (by decide) rfl at_251 rfl rfl
          · skip
            exact absurd x0 n0
          · skip
            exact absurd x0 n0
          · skip
            exact absurd x0 n0
        · skip
          show Own.Go _ _ _ _ _ 192 #[.val (.int p0), .val (.int p1), .val (.int p2), .val (.int p3), .val (.int p4), .val (.ref o1), .val (.int ((p1 &&& (7 : Int32)) % (6 : Int32))), .val (.ref o8), .val .null] [(.int (0 : Int32))]
          refine Own.ifYes W13 at_192 203 (by decide) (by decide) (by decide) ?_
          refine Own.aload W13 at_203 205 rfl (.ref o8) rfl rfl ?_
          refine Own.ldcR W13 (tw hw 47 rfl) (Own.sAtoms (wS hw)) (by rw [hE]; decide) (vs := [(.int (107 : Int32)), (.int (101 : Int32)), (.int (101 : Int32)), (.int (112 : Int32))]) (z := (4 : Int32)) ⟨by decide, by decide⟩ (by decide) (by decide) at_205 207 rfl 16 (by decide) (by decide) 11 67 (Nat.le_of_ble_eq_true rfl) (Nat.le_of_ble_eq_true rfl) (Nat.le_of_ble_eq_true rfl) (Nat.le_of_ble_eq_true rfl) ?_
          intro v16 T16 h16 o16 b16 q16 W16 R16 E16 fa16 fc16 fv16 fb16 ne16
          have F16 : Own.Str G.Z h16 o16 [(107 : Int32), (101 : Int32), (101 : Int32), (112 : Int32)] := ⟨fa16, fc16, by decide, by decide, b16, q16, fv16, fb16⟩
          have X18 : Ext h8 h16 := Own.Ext.tr X12 E16
          have ZE17 := (F8.ext X18).exa
          refine Own.callV W16 (tw hw 37 rfl) (tw hw 38 rfl) (fun s q => notFace_of_selects (args := #[]) (mvT (s := s) q (tw hw 40 rfl))) (tw hw 40 rfl) (tw hw 39 rfl) (by decide) (argsL := [(.ref o16)]) (rest := []) (Own.payEq (wQ hw) (kI := 4) (tw hw 6 rfl) W16 (F8.ext X18) F16 hS hcz (len := 3) (wd := 0) (by decide) (by decide)) ZE17 rfl (lenOf pd_1 rfl) rfl (Nat.le_of_ble_eq_true rfl) at_207 210 rfl 11 67 (Nat.le_of_ble_eq_true rfl) (Nat.le_of_ble_eq_true rfl) (Nat.le_of_ble_eq_true rfl) (Nat.le_of_ble_eq_true rfl) ?_
          intro v19 T19 h19 u19 W19 R19 hq
          obtain ⟨hv19, eh19⟩ := hq
          have ei19 := eh19.symm; subst ei19
          rcases hv19 with ⟨rfl, x1⟩ | ⟨rfl, x1⟩
          · skip
            show Own.Go _ _ _ _ _ 210 #[.val (.int p0), .val (.int p1), .val (.int p2), .val (.int p3), .val (.int p4), .val (.ref o1), .val (.int ((p1 &&& (7 : Int32)) % (6 : Int32))), .val (.ref o8), .val .null] [(.int (1 : Int32))]
            refine Own.ifNo W19 at_210 213 (by decide) rfl ?_
            refine Own.getS W19 (tw hw 80 rfl) Via.refl (W19.sta TE1) at_213 216 rfl ?_
            intro T20 W20
            refine Own.astore W20 at_216 218 rfl rfl #[.val (.int p0), .val (.int p1), .val (.int p2), .val (.int p3), .val (.int p4), .val (.ref o1), .val (.int ((p1 &&& (7 : Int32)) % (6 : Int32))), .val (.ref o8), .val (.ref r1)] rfl ?_
            refine Own.goto W20 at_218 236 (by decide) (by decide) ?_
            refine Own.aload W20 at_236 238 rfl (.ref o8) rfl rfl ?_
            refine Own.callS W20 (tw hw 49 rfl) (tw hw 50 rfl) (tw hw 51 rfl) (tw hw 52 rfl) (by decide) (argsL := [(.ref o8)]) (rest := []) (Own.Con.pay (con_named hw hEL hmem hS hcz TV AV XV TE0 LE0 SE0 TE1 LE1 SE1 TE2 LE2 SE2 W20.old (F8.ext X18)) W20 (tw hw 52 rfl) (tw hw 51 rfl) (len := 3) (wd := 0) (by decide) (by decide) (fun _ q => nomatch q)) rfl (lenOf pd_4 rfl) rfl (Nat.le_of_ble_eq_true rfl) at_238 241 rfl 12 70 (Nat.le_of_ble_eq_true rfl) (Nat.le_of_ble_eq_true rfl) (Nat.le_of_ble_eq_true rfl) (Nat.le_of_ble_eq_true rfl) ?_
            intro v21 T21 h21 u21 W21 R21 hq
            obtain ⟨hv21, E21⟩ := hq
            rcases hv21 with ⟨rfl, y0⟩ | ⟨rfl, n0, y1⟩ | ⟨rfl, n0, n1, y2⟩ | ⟨rfl, n0, n1, n2⟩
            · skip
              exact absurd y0 x0
            · skip
              show Own.Go _ _ _ _ _ 241 #[.val (.int p0), .val (.int p1), .val (.int p2), .val (.int p3), .val (.int p4), .val (.ref o1), .val (.int ((p1 &&& (7 : Int32)) % (6 : Int32))), .val (.ref o8), .val (.ref r1)] [(.ref r1)]
              refine Own.aload W21 at_241 243 rfl (.ref r1) rfl rfl ?_
              refine Own.acmp W21 at_243 246 rfl rfl true (decide_eq_true rfl) (by decide) rfl ?_
              refine Own.iconst W21 at_246 247 rfl (1 : Int32) rfl ?_
              refine Own.goto W21 at_247 251 (by decide) (by decide) ?_
              exact Own.retB W21 (by decide) (by decide) rfl at_251 rfl rfl
            · skip
              exact absurd x1 n1
            · skip
              exact absurd x1 n1
          · skip
            show Own.Go _ _ _ _ _ 210 #[.val (.int p0), .val (.int p1), .val (.int p2), .val (.int p3), .val (.int p4), .val (.ref o1), .val (.int ((p1 &&& (7 : Int32)) % (6 : Int32))), .val (.ref o8), .val .null] [(.int (0 : Int32))]
            refine Own.ifYes W19 at_210 221 (by decide) (by decide) (by decide) ?_
            refine Own.aload W19 at_221 223 rfl (.ref o8) rfl rfl ?_
            refine Own.ldcR W19 (tw hw 48 rfl) (Own.sAtoms (wS hw)) (by rw [hE]; decide) (vs := [(.int (110 : Int32)), (.int (111 : Int32)), (.int (110 : Int32)), (.int (101 : Int32))]) (z := (4 : Int32)) ⟨by decide, by decide⟩ (by decide) (by decide) at_223 225 rfl 16 (by decide) (by decide) 13 87 (Nat.le_of_ble_eq_true rfl) (Nat.le_of_ble_eq_true rfl) (Nat.le_of_ble_eq_true rfl) (Nat.le_of_ble_eq_true rfl) ?_
            intro v22 T22 h22 o22 b22 q22 W22 R22 E22 fa22 fc22 fv22 fb22 ne22
            have F22 : Own.Str G.Z h22 o22 [(110 : Int32), (111 : Int32), (110 : Int32), (101 : Int32)] := ⟨fa22, fc22, by decide, by decide, b22, q22, fv22, fb22⟩
            have X24 : Ext h8 h22 := Own.Ext.tr X18 E22
            have ZE23 := (F8.ext X24).exa
            refine Own.callV W22 (tw hw 37 rfl) (tw hw 38 rfl) (fun s q => notFace_of_selects (args := #[]) (mvT (s := s) q (tw hw 40 rfl))) (tw hw 40 rfl) (tw hw 39 rfl) (by decide) (argsL := [(.ref o22)]) (rest := []) (Own.payEq (wQ hw) (kI := 4) (tw hw 6 rfl) W22 (F8.ext X24) F22 hS hcz (len := 3) (wd := 0) (by decide) (by decide)) ZE23 rfl (lenOf pd_1 rfl) rfl (Nat.le_of_ble_eq_true rfl) at_225 228 rfl 13 87 (Nat.le_of_ble_eq_true rfl) (Nat.le_of_ble_eq_true rfl) (Nat.le_of_ble_eq_true rfl) (Nat.le_of_ble_eq_true rfl) ?_
            intro v25 T25 h25 u25 W25 R25 hq
            obtain ⟨hv25, eh25⟩ := hq
            have ei25 := eh25.symm; subst ei25
            rcases hv25 with ⟨rfl, x2⟩ | ⟨rfl, x2⟩
            · skip
              show Own.Go _ _ _ _ _ 228 #[.val (.int p0), .val (.int p1), .val (.int p2), .val (.int p3), .val (.int p4), .val (.ref o1), .val (.int ((p1 &&& (7 : Int32)) % (6 : Int32))), .val (.ref o8), .val .null] [(.int (1 : Int32))]
              refine Own.ifNo W25 at_228 231 (by decide) rfl ?_
              refine Own.getS W25 (tw hw 79 rfl) Via.refl (W25.sta TE2) at_231 234 rfl ?_
              intro T26 W26
              refine Own.astore W26 at_234 236 rfl rfl #[.val (.int p0), .val (.int p1), .val (.int p2), .val (.int p3), .val (.int p4), .val (.ref o1), .val (.int ((p1 &&& (7 : Int32)) % (6 : Int32))), .val (.ref o8), .val (.ref r2)] rfl ?_
              refine Own.aload W26 at_236 238 rfl (.ref o8) rfl rfl ?_
              refine Own.callS W26 (tw hw 49 rfl) (tw hw 50 rfl) (tw hw 51 rfl) (tw hw 52 rfl) (by decide) (argsL := [(.ref o8)]) (rest := []) (Own.Con.pay (con_named hw hEL hmem hS hcz TV AV XV TE0 LE0 SE0 TE1 LE1 SE1 TE2 LE2 SE2 W26.old (F8.ext X24)) W26 (tw hw 52 rfl) (tw hw 51 rfl) (len := 3) (wd := 0) (by decide) (by decide) (fun _ q => nomatch q)) rfl (lenOf pd_4 rfl) rfl (Nat.le_of_ble_eq_true rfl) at_238 241 rfl 14 90 (Nat.le_of_ble_eq_true rfl) (Nat.le_of_ble_eq_true rfl) (Nat.le_of_ble_eq_true rfl) (Nat.le_of_ble_eq_true rfl) ?_
              intro v27 T27 h27 u27 W27 R27 hq
              obtain ⟨hv27, E27⟩ := hq
              rcases hv27 with ⟨rfl, y0⟩ | ⟨rfl, n0, y1⟩ | ⟨rfl, n0, n1, y2⟩ | ⟨rfl, n0, n1, n2⟩
              · skip
                exact absurd y0 x0
              · skip
                exact absurd y1 x1
              · skip
                show Own.Go _ _ _ _ _ 241 #[.val (.int p0), .val (.int p1), .val (.int p2), .val (.int p3), .val (.int p4), .val (.ref o1), .val (.int ((p1 &&& (7 : Int32)) % (6 : Int32))), .val (.ref o8), .val (.ref r2)] [(.ref r2)]
                refine Own.aload W27 at_241 243 rfl (.ref r2) rfl rfl ?_
                refine Own.acmp W27 at_243 246 rfl rfl true (decide_eq_true rfl) (by decide) rfl ?_
                refine Own.iconst W27 at_246 247 rfl (1 : Int32) rfl ?_
                refine Own.goto W27 at_247 251 (by decide) (by decide) ?_
                exact Own.retB W27 (by decide) (by decide) rfl at_251 rfl rfl
              · skip
                exact absurd x2 n2
            · skip
              show Own.Go _ _ _ _ _ 228 #[.val (.int p0), .val (.int p1), .val (.int p2), .val (.int p3), .val (.int p4), .val (.ref o1), .val (.int ((p1 &&& (7 : Int32)) % (6 : Int32))), .val (.ref o8), .val .null] [(.int (0 : Int32))]
              refine Own.ifYes W25 at_228 236 (by decide) (by decide) (by decide) ?_
              refine Own.aload W25 at_236 238 rfl (.ref o8) rfl rfl ?_
              refine Own.callS W25 (tw hw 49 rfl) (tw hw 50 rfl) (tw hw 51 rfl) (tw hw 52 rfl) (by decide) (argsL := [(.ref o8)]) (rest := []) (Own.Con.pay (con_named hw hEL hmem hS hcz TV AV XV TE0 LE0 SE0 TE1 LE1 SE1 TE2 LE2 SE2 W25.old (F8.ext X24)) W25 (tw hw 52 rfl) (tw hw 51 rfl) (len := 3) (wd := 0) (by decide) (by decide) (fun _ q => nomatch q)) rfl (lenOf pd_4 rfl) rfl (Nat.le_of_ble_eq_true rfl) at_238 241 rfl 14 90 (Nat.le_of_ble_eq_true rfl) (Nat.le_of_ble_eq_true rfl) (Nat.le_of_ble_eq_true rfl) (Nat.le_of_ble_eq_true rfl) ?_
              intro v28 T28 h28 u28 W28 R28 hq
              obtain ⟨hv28, E28⟩ := hq
              rcases hv28 with ⟨rfl, y0⟩ | ⟨rfl, n0, y1⟩ | ⟨rfl, n0, n1, y2⟩ | ⟨rfl, n0, n1, n2⟩
              · skip
                exact absurd y0 x0
              · skip
                exact absurd y1 x1
              · skip
                exact absurd y2 x2
              · skip
                show Own.Go _ _ _ _ _ 241 #[.val (.int p0), .val (.int p1), .val (.int p2), .val (.int p3), .val (.int p4), .val (.ref o1), .val (.int ((p1 &&& (7 : Int32)) % (6 : Int32))), .val (.ref o8), .val .null] [.null]
                refine Own.aload W28 at_241 243 rfl .null rfl rfl ?_
                refine Own.acmp W28 at_243 246 rfl rfl true (decide_eq_true rfl) (by decide) rfl ?_
                refine Own.iconst W28 at_246 247 rfl (1 : Int32) rfl ?_
                refine Own.goto W28 at_247 251 (by decide) (by decide) ?_
                exact Own.retB W28 (by decide) (by decide) rfl at_251 rfl rfl
    · skip
      refine Own.ifNo W7 at_120 123 (XT.i0_eq_f e2) rfl ?_
      refine Own.iload W7 at_123 125 rfl p4 rfl ?_
      refine Own.bipush W7 at_125 127 rfl (8 : Int32) rfl ?_
      refine Own.iushr W7 at_127 128 rfl ?_
      refine Own.bipush W7 at_128 130 rfl (7 : Int32) rfl ?_
      refine Own.iand W7 at_130 131 rfl ?_
      refine Own.iconst W7 at_131 132 rfl (5 : Int32) rfl ?_
      refine Own.irem W7 at_132 133 rfl (by decide) ?_
      refine Own.istore W7 at_133 135 rfl #[.val (.int p0), .val (.int p1), .val (.int p2), .val (.int p3), .val (.int p4), .val (.ref o1), .val (.int ((((p4.toUInt32 >>> ((8 : Int32) &&& 31).toUInt32).toInt32) &&& (7 : Int32)) % (5 : Int32))), .unset, .unset] rfl ?_
      refine Own.aload W7 at_135 137 rfl (.ref o1) rfl rfl ?_
      refine Own.iload W7 at_137 139 rfl ((((p4.toUInt32 >>> ((8 : Int32) &&& 31).toUInt32).toInt32) &&& (7 : Int32)) % (5 : Int32)) rfl ?_
      refine Own.iload W7 at_139 141 rfl p4 rfl ?_
      refine Own.sipush W7 at_141 144 rfl (255 : Int32) rfl ?_
      refine Own.iand W7 at_144 145 rfl ?_
      refine Own.i2c W7 at_145 146 rfl ?_
      refine Own.castoreC W7 V7 (pos5 _) (Nat.le_trans W0.n0 (Nat.le_of_eq g1.symm)) (show Own.Rg _ from Own.lo_rng _) at_146 147 rfl ?_
      intro T29 h29 W29 Q29 V29 k29
      refine Own.iloadN W29 at_147 148 rfl p1 rfl ?_
      refine Own.bipush W29 at_148 150 rfl (7 : Int32) rfl ?_
      refine Own.iand W29 at_150 151 rfl ?_
      refine Own.bipush W29 at_151 153 rfl (6 : Int32) rfl ?_
      refine Own.irem W29 at_153 154 rfl (by decide) ?_
      refine Own.istore W29 at_154 156 rfl #[.val (.int p0), .val (.int p1), .val (.int p2), .val (.int p3), .val (.int p4), .val (.ref o1), .val (.int ((p1 &&& (7 : Int32)) % (6 : Int32))), .unset, .unset] rfl ?_
      refine Own.aload W29 at_156 158 rfl (.ref o1) rfl rfl ?_
      refine Own.iload W29 at_158 160 rfl ((p1 &&& (7 : Int32)) % (6 : Int32)) rfl ?_
      refine Own.callS W29 (tw hw 1 rfl) (tw hw 2 rfl) (tw hw 3 rfl) (tw hw 4 rfl) (by decide) (argsL := [(.ref o1), (.int ((p1 &&& (7 : Int32)) % (6 : Int32)))]) (rest := []) (Own.Con.pay (con_bld hw hEL hmem hS hcz ((p1 &&& (7 : Int32)) % (6 : Int32)) W29.old V29) W29 (tw hw 4 rfl) (tw hw 3 rfl) (len := 3) (wd := 0) (by decide) (by decide) (fun _ q => nomatch q)) rfl (lenOf pd_3 rfl) rfl (Nat.le_of_ble_eq_true rfl) at_160 163 rfl 7 27 (Nat.le_of_ble_eq_true rfl) (Nat.le_of_ble_eq_true rfl) (Nat.le_of_ble_eq_true rfl) (Nat.le_of_ble_eq_true rfl) ?_
      intro v30 T30 h30 u30 W30 R30 hq
      obtain ⟨o30, cs30, rfl, E30, g30, F30⟩ := hq
      show Own.Go _ _ _ _ _ 163 #[.val (.int p0), .val (.int p1), .val (.int p2), .val (.int p3), .val (.int p4), .val (.ref o1), .val (.int ((p1 &&& (7 : Int32)) % (6 : Int32))), .unset, .unset] [(.ref o30)]
      refine Own.astore W30 at_163 165 rfl rfl #[.val (.int p0), .val (.int p1), .val (.int p2), .val (.int p3), .val (.int p4), .val (.ref o1), .val (.int ((p1 &&& (7 : Int32)) % (6 : Int32))), .val (.ref o30), .unset] rfl ?_
      refine Own.iloadN W30 at_165 166 rfl p0 rfl ?_
      refine Own.bipush W30 at_166 168 rfl (12 : Int32) rfl ?_
      refine Own.iand W30 at_168 169 rfl ?_
      refine Own.bipush W30 at_169 171 rfl (12 : Int32) rfl ?_
      by_cases hx : (p0 &&& (12 : Int32)) = (12 : Int32)
      · skip
        refine Own.icmpNo W30 at_171 174 (XT.ii_ne_f hx) rfl ?_
        refine Own.aconstNull W30 at_174 175 rfl ?_
        refine Own.astore W30 at_175 177 rfl rfl #[.val (.int p0), .val (.int p1), .val (.int p2), .val (.int p3), .val (.int p4), .val (.ref o1), .val (.int ((p1 &&& (7 : Int32)) % (6 : Int32))), .val .null, .unset] rfl ?_
        refine Own.aconstNull W30 at_177 178 rfl ?_
        refine Own.astore W30 at_178 180 rfl rfl #[.val (.int p0), .val (.int p1), .val (.int p2), .val (.int p3), .val (.int p4), .val (.ref o1), .val (.int ((p1 &&& (7 : Int32)) % (6 : Int32))), .val .null, .val .null] rfl ?_
        refine Own.aload W30 at_180 182 rfl .null rfl rfl ?_
        refine Own.ifnullYes W30 at_182 236 (by decide) (by decide) ?_
        refine Own.aload W30 at_236 238 rfl .null rfl rfl ?_
        refine Own.callS W30 (tw hw 49 rfl) (tw hw 50 rfl) (tw hw 51 rfl) (tw hw 52 rfl) (by decide) (argsL := [.null]) (rest := []) (Own.Con.pay (con_namedN hw hEL hmem hS hcz TV AV XV TE0 LE0 SE0 TE1 LE1 SE1 TE2 LE2 SE2 W30.old) W30 (tw hw 52 rfl) (tw hw 51 rfl) (len := 3) (wd := 0) (by decide) (by decide) (fun _ q => nomatch q)) rfl (lenOf pd_4 rfl) rfl (Nat.le_of_ble_eq_true rfl) at_238 241 rfl 8 30 (Nat.le_of_ble_eq_true rfl) (Nat.le_of_ble_eq_true rfl) (Nat.le_of_ble_eq_true rfl) (Nat.le_of_ble_eq_true rfl) ?_
        intro v31 T31 h31 u31 W31 R31 hq
        obtain ⟨rfl, E31⟩ := hq
        show Own.Go _ _ _ _ _ 241 #[.val (.int p0), .val (.int p1), .val (.int p2), .val (.int p3), .val (.int p4), .val (.ref o1), .val (.int ((p1 &&& (7 : Int32)) % (6 : Int32))), .val .null, .val .null] [.null]
        refine Own.aload W31 at_241 243 rfl .null rfl rfl ?_
        refine Own.acmp W31 at_243 246 rfl rfl true (decide_eq_true rfl) (by decide) rfl ?_
        refine Own.iconst W31 at_246 247 rfl (1 : Int32) rfl ?_
        refine Own.goto W31 at_247 251 (by decide) (by decide) ?_
        exact Own.retB W31 (by decide) (by decide) rfl at_251 rfl rfl
      · skip
        refine Own.icmpYes W30 at_171 177 (XT.ii_ne_t hx) (by decide) (by decide) ?_
        refine Own.aconstNull W30 at_177 178 rfl ?_
        refine Own.astore W30 at_178 180 rfl rfl #[.val (.int p0), .val (.int p1), .val (.int p2), .val (.int p3), .val (.int p4), .val (.ref o1), .val (.int ((p1 &&& (7 : Int32)) % (6 : Int32))), .val (.ref o30), .val .null] rfl ?_
        refine Own.aload W30 at_180 182 rfl (.ref o30) rfl rfl ?_
        refine Own.ifnullNo W30 at_182 185 rfl ?_
        refine Own.aload W30 at_185 187 rfl (.ref o30) rfl rfl ?_
        refine Own.ldcR W30 (tw hw 34 rfl) (Own.sAtoms (wS hw)) (by rw [hE]; decide) (vs := [(.int (104 : Int32)), (.int (111 : Int32)), (.int (108 : Int32)), (.int (100 : Int32))]) (z := (4 : Int32)) ⟨by decide, by decide⟩ (by decide) (by decide) at_187 189 rfl 16 (by decide) (by decide) 9 47 (Nat.le_of_ble_eq_true rfl) (Nat.le_of_ble_eq_true rfl) (Nat.le_of_ble_eq_true rfl) (Nat.le_of_ble_eq_true rfl) ?_
        intro v32 T32 h32 o32 b32 q32 W32 R32 E32 fa32 fc32 fv32 fb32 ne32
        have F32 : Own.Str G.Z h32 o32 [(104 : Int32), (111 : Int32), (108 : Int32), (100 : Int32)] := ⟨fa32, fc32, by decide, by decide, b32, q32, fv32, fb32⟩
        have X34 : Ext h30 h32 := E32
        have ZE33 := (F30.ext X34).exa
        refine Own.callV W32 (tw hw 37 rfl) (tw hw 38 rfl) (fun s q => notFace_of_selects (args := #[]) (mvT (s := s) q (tw hw 40 rfl))) (tw hw 40 rfl) (tw hw 39 rfl) (by decide) (argsL := [(.ref o32)]) (rest := []) (Own.payEq (wQ hw) (kI := 4) (tw hw 6 rfl) W32 (F30.ext X34) F32 hS hcz (len := 3) (wd := 0) (by decide) (by decide)) ZE33 rfl (lenOf pd_1 rfl) rfl (Nat.le_of_ble_eq_true rfl) at_189 192 rfl 9 47 (Nat.le_of_ble_eq_true rfl) (Nat.le_of_ble_eq_true rfl) (Nat.le_of_ble_eq_true rfl) (Nat.le_of_ble_eq_true rfl) ?_
        intro v35 T35 h35 u35 W35 R35 hq
        obtain ⟨hv35, eh35⟩ := hq
        have ei35 := eh35.symm; subst ei35
        rcases hv35 with ⟨rfl, x0⟩ | ⟨rfl, x0⟩
        · skip
          show Own.Go _ _ _ _ _ 192 #[.val (.int p0), .val (.int p1), .val (.int p2), .val (.int p3), .val (.int p4), .val (.ref o1), .val (.int ((p1 &&& (7 : Int32)) % (6 : Int32))), .val (.ref o30), .val .null] [(.int (1 : Int32))]
          refine Own.ifNo W35 at_192 195 (by decide) rfl ?_
          refine Own.getS W35 (tw hw 77 rfl) Via.refl (W35.sta TE0) at_195 198 rfl ?_
          intro T36 W36
          refine Own.astore W36 at_198 200 rfl rfl #[.val (.int p0), .val (.int p1), .val (.int p2), .val (.int p3), .val (.int p4), .val (.ref o1), .val (.int ((p1 &&& (7 : Int32)) % (6 : Int32))), .val (.ref o30), .val (.ref r0)] rfl ?_
          refine Own.goto W36 at_200 236 (by decide) (by decide) ?_
          refine Own.aload W36 at_236 238 rfl (.ref o30) rfl rfl ?_
          refine Own.callS W36 (tw hw 49 rfl) (tw hw 50 rfl) (tw hw 51 rfl) (tw hw 52 rfl) (by decide) (argsL := [(.ref o30)]) (rest := []) (Own.Con.pay (con_named hw hEL hmem hS hcz TV AV XV TE0 LE0 SE0 TE1 LE1 SE1 TE2 LE2 SE2 W36.old (F30.ext X34)) W36 (tw hw 52 rfl) (tw hw 51 rfl) (len := 3) (wd := 0) (by decide) (by decide) (fun _ q => nomatch q)) rfl (lenOf pd_4 rfl) rfl (Nat.le_of_ble_eq_true rfl) at_238 241 rfl 10 50 (Nat.le_of_ble_eq_true rfl) (Nat.le_of_ble_eq_true rfl) (Nat.le_of_ble_eq_true rfl) (Nat.le_of_ble_eq_true rfl) ?_
          intro v37 T37 h37 u37 W37 R37 hq
          obtain ⟨hv37, E37⟩ := hq
          rcases hv37 with ⟨rfl, y0⟩ | ⟨rfl, n0, y1⟩ | ⟨rfl, n0, n1, y2⟩ | ⟨rfl, n0, n1, n2⟩
          · skip
            show Own.Go _ _ _ _ _ 241 #[.val (.int p0), .val (.int p1), .val (.int p2), .val (.int p3), .val (.int p4), .val (.ref o1), .val (.int ((p1 &&& (7 : Int32)) % (6 : Int32))), .val (.ref o30), .val (.ref r0)] [(.ref r0)]
            refine Own.aload W37 at_241 243 rfl (.ref r0) rfl rfl ?_
            refine Own.acmp W37 at_243 246 rfl rfl true (decide_eq_true rfl) (by decide) rfl ?_
            refine Own.iconst W37 at_246 247 rfl (1 : Int32) rfl ?_
            refine Own.goto W37 at_247 251 (by decide) (by decide) ?_
            exact Own.retB W37 (by decide) (by decide) rfl at_251 rfl rfl
          · skip
            exact absurd x0 n0
          · skip
            exact absurd x0 n0
          · skip
            exact absurd x0 n0
        · skip
          show Own.Go _ _ _ _ _ 192 #[.val (.int p0), .val (.int p1), .val (.int p2), .val (.int p3), .val (.int p4), .val (.ref o1), .val (.int ((p1 &&& (7 : Int32)) % (6 : Int32))), .val (.ref o30), .val .null] [(.int (0 : Int32))]
          refine Own.ifYes W35 at_192 203 (by decide) (by decide) (by decide) ?_
          refine Own.aload W35 at_203 205 rfl (.ref o30) rfl rfl ?_
          refine Own.ldcR W35 (tw hw 47 rfl) (Own.sAtoms (wS hw)) (by rw [hE]; decide) (vs := [(.int (107 : Int32)), (.int (101 : Int32)), (.int (101 : Int32)), (.int (112 : Int32))]) (z := (4 : Int32)) ⟨by decide, by decide⟩ (by decide) (by decide) at_205 207 rfl 16 (by decide) (by decide) 11 67 (Nat.le_of_ble_eq_true rfl) (Nat.le_of_ble_eq_true rfl) (Nat.le_of_ble_eq_true rfl) (Nat.le_of_ble_eq_true rfl) ?_
          intro v38 T38 h38 o38 b38 q38 W38 R38 E38 fa38 fc38 fv38 fb38 ne38
          have F38 : Own.Str G.Z h38 o38 [(107 : Int32), (101 : Int32), (101 : Int32), (112 : Int32)] := ⟨fa38, fc38, by decide, by decide, b38, q38, fv38, fb38⟩
          have X40 : Ext h30 h38 := Own.Ext.tr X34 E38
          have ZE39 := (F30.ext X40).exa
          refine Own.callV W38 (tw hw 37 rfl) (tw hw 38 rfl) (fun s q => notFace_of_selects (args := #[]) (mvT (s := s) q (tw hw 40 rfl))) (tw hw 40 rfl) (tw hw 39 rfl) (by decide) (argsL := [(.ref o38)]) (rest := []) (Own.payEq (wQ hw) (kI := 4) (tw hw 6 rfl) W38 (F30.ext X40) F38 hS hcz (len := 3) (wd := 0) (by decide) (by decide)) ZE39 rfl (lenOf pd_1 rfl) rfl (Nat.le_of_ble_eq_true rfl) at_207 210 rfl 11 67 (Nat.le_of_ble_eq_true rfl) (Nat.le_of_ble_eq_true rfl) (Nat.le_of_ble_eq_true rfl) (Nat.le_of_ble_eq_true rfl) ?_
          intro v41 T41 h41 u41 W41 R41 hq
          obtain ⟨hv41, eh41⟩ := hq
          have ei41 := eh41.symm; subst ei41
          rcases hv41 with ⟨rfl, x1⟩ | ⟨rfl, x1⟩
          · skip
            show Own.Go _ _ _ _ _ 210 #[.val (.int p0), .val (.int p1), .val (.int p2), .val (.int p3), .val (.int p4), .val (.ref o1), .val (.int ((p1 &&& (7 : Int32)) % (6 : Int32))), .val (.ref o30), .val .null] [(.int (1 : Int32))]
            refine Own.ifNo W41 at_210 213 (by decide) rfl ?_
            refine Own.getS W41 (tw hw 80 rfl) Via.refl (W41.sta TE1) at_213 216 rfl ?_
            intro T42 W42
            refine Own.astore W42 at_216 218 rfl rfl #[.val (.int p0), .val (.int p1), .val (.int p2), .val (.int p3), .val (.int p4), .val (.ref o1), .val (.int ((p1 &&& (7 : Int32)) % (6 : Int32))), .val (.ref o30), .val (.ref r1)] rfl ?_
            refine Own.goto W42 at_218 236 (by decide) (by decide) ?_
            refine Own.aload W42 at_236 238 rfl (.ref o30) rfl rfl ?_
            refine Own.callS W42 (tw hw 49 rfl) (tw hw 50 rfl) (tw hw 51 rfl) (tw hw 52 rfl) (by decide) (argsL := [(.ref o30)]) (rest := []) (Own.Con.pay (con_named hw hEL hmem hS hcz TV AV XV TE0 LE0 SE0 TE1 LE1 SE1 TE2 LE2 SE2 W42.old (F30.ext X40)) W42 (tw hw 52 rfl) (tw hw 51 rfl) (len := 3) (wd := 0) (by decide) (by decide) (fun _ q => nomatch q)) rfl (lenOf pd_4 rfl) rfl (Nat.le_of_ble_eq_true rfl) at_238 241 rfl 12 70 (Nat.le_of_ble_eq_true rfl) (Nat.le_of_ble_eq_true rfl) (Nat.le_of_ble_eq_true rfl) (Nat.le_of_ble_eq_true rfl) ?_
            intro v43 T43 h43 u43 W43 R43 hq
            obtain ⟨hv43, E43⟩ := hq
            rcases hv43 with ⟨rfl, y0⟩ | ⟨rfl, n0, y1⟩ | ⟨rfl, n0, n1, y2⟩ | ⟨rfl, n0, n1, n2⟩
            · skip
              exact absurd y0 x0
            · skip
              show Own.Go _ _ _ _ _ 241 #[.val (.int p0), .val (.int p1), .val (.int p2), .val (.int p3), .val (.int p4), .val (.ref o1), .val (.int ((p1 &&& (7 : Int32)) % (6 : Int32))), .val (.ref o30), .val (.ref r1)] [(.ref r1)]
              refine Own.aload W43 at_241 243 rfl (.ref r1) rfl rfl ?_
              refine Own.acmp W43 at_243 246 rfl rfl true (decide_eq_true rfl) (by decide) rfl ?_
              refine Own.iconst W43 at_246 247 rfl (1 : Int32) rfl ?_
              refine Own.goto W43 at_247 251 (by decide) (by decide) ?_
              exact Own.retB W43 (by decide) (by decide) rfl at_251 rfl rfl
            · skip
              exact absurd x1 n1
            · skip
              exact absurd x1 n1
          · skip
            show Own.Go _ _ _ _ _ 210 #[.val (.int p0), .val (.int p1), .val (.int p2), .val (.int p3), .val (.int p4), .val (.ref o1), .val (.int ((p1 &&& (7 : Int32)) % (6 : Int32))), .val (.ref o30), .val .null] [(.int (0 : Int32))]
            refine Own.ifYes W41 at_210 221 (by decide) (by decide) (by decide) ?_
            refine Own.aload W41 at_221 223 rfl (.ref o30) rfl rfl ?_
            refine Own.ldcR W41 (tw hw 48 rfl) (Own.sAtoms (wS hw)) (by rw [hE]; decide) (vs := [(.int (110 : Int32)), (.int (111 : Int32)), (.int (110 : Int32)), (.int (101 : Int32))]) (z := (4 : Int32)) ⟨by decide, by decide⟩ (by decide) (by decide) at_223 225 rfl 16 (by decide) (by decide) 13 87 (Nat.le_of_ble_eq_true rfl) (Nat.le_of_ble_eq_true rfl) (Nat.le_of_ble_eq_true rfl) (Nat.le_of_ble_eq_true rfl) ?_
            intro v44 T44 h44 o44 b44 q44 W44 R44 E44 fa44 fc44 fv44 fb44 ne44
            have F44 : Own.Str G.Z h44 o44 [(110 : Int32), (111 : Int32), (110 : Int32), (101 : Int32)] := ⟨fa44, fc44, by decide, by decide, b44, q44, fv44, fb44⟩
            have X46 : Ext h30 h44 := Own.Ext.tr X40 E44
            have ZE45 := (F30.ext X46).exa
            refine Own.callV W44 (tw hw 37 rfl) (tw hw 38 rfl) (fun s q => notFace_of_selects (args := #[]) (mvT (s := s) q (tw hw 40 rfl))) (tw hw 40 rfl) (tw hw 39 rfl) (by decide) (argsL := [(.ref o44)]) (rest := []) (Own.payEq (wQ hw) (kI := 4) (tw hw 6 rfl) W44 (F30.ext X46) F44 hS hcz (len := 3) (wd := 0) (by decide) (by decide)) ZE45 rfl (lenOf pd_1 rfl) rfl (Nat.le_of_ble_eq_true rfl) at_225 228 rfl 13 87 (Nat.le_of_ble_eq_true rfl) (Nat.le_of_ble_eq_true rfl) (Nat.le_of_ble_eq_true rfl) (Nat.le_of_ble_eq_true rfl) ?_
            intro v47 T47 h47 u47 W47 R47 hq
            obtain ⟨hv47, eh47⟩ := hq
            have ei47 := eh47.symm; subst ei47
            rcases hv47 with ⟨rfl, x2⟩ | ⟨rfl, x2⟩
            · skip
              show Own.Go _ _ _ _ _ 228 #[.val (.int p0), .val (.int p1), .val (.int p2), .val (.int p3), .val (.int p4), .val (.ref o1), .val (.int ((p1 &&& (7 : Int32)) % (6 : Int32))), .val (.ref o30), .val .null] [(.int (1 : Int32))]
              refine Own.ifNo W47 at_228 231 (by decide) rfl ?_
              refine Own.getS W47 (tw hw 79 rfl) Via.refl (W47.sta TE2) at_231 234 rfl ?_
              intro T48 W48
              refine Own.astore W48 at_234 236 rfl rfl #[.val (.int p0), .val (.int p1), .val (.int p2), .val (.int p3), .val (.int p4), .val (.ref o1), .val (.int ((p1 &&& (7 : Int32)) % (6 : Int32))), .val (.ref o30), .val (.ref r2)] rfl ?_
              refine Own.aload W48 at_236 238 rfl (.ref o30) rfl rfl ?_
              refine Own.callS W48 (tw hw 49 rfl) (tw hw 50 rfl) (tw hw 51 rfl) (tw hw 52 rfl) (by decide) (argsL := [(.ref o30)]) (rest := []) (Own.Con.pay (con_named hw hEL hmem hS hcz TV AV XV TE0 LE0 SE0 TE1 LE1 SE1 TE2 LE2 SE2 W48.old (F30.ext X46)) W48 (tw hw 52 rfl) (tw hw 51 rfl) (len := 3) (wd := 0) (by decide) (by decide) (fun _ q => nomatch q)) rfl (lenOf pd_4 rfl) rfl (Nat.le_of_ble_eq_true rfl) at_238 241 rfl 14 90 (Nat.le_of_ble_eq_true rfl) (Nat.le_of_ble_eq_true rfl) (Nat.le_of_ble_eq_true rfl) (Nat.le_of_ble_eq_true rfl) ?_
              intro v49 T49 h49 u49 W49 R49 hq
              obtain ⟨hv49, E49⟩ := hq
              rcases hv49 with ⟨rfl, y0⟩ | ⟨rfl, n0, y1⟩ | ⟨rfl, n0, n1, y2⟩ | ⟨rfl, n0, n1, n2⟩
              · skip
                exact absurd y0 x0
              · skip
                exact absurd y1 x1
              · skip
                show Own.Go _ _ _ _ _ 241 #[.val (.int p0), .val (.int p1), .val (.int p2), .val (.int p3), .val (.int p4), .val (.ref o1), .val (.int ((p1 &&& (7 : Int32)) % (6 : Int32))), .val (.ref o30), .val (.ref r2)] [(.ref r2)]
                refine Own.aload W49 at_241 243 rfl (.ref r2) rfl rfl ?_
                refine Own.acmp W49 at_243 246 rfl rfl true (decide_eq_true rfl) (by decide) rfl ?_
                refine Own.iconst W49 at_246 247 rfl (1 : Int32) rfl ?_
                refine Own.goto W49 at_247 251 (by decide) (by decide) ?_
                exact Own.retB W49 (by decide) (by decide) rfl at_251 rfl rfl
              · skip
                exact absurd x2 n2
            · skip
              show Own.Go _ _ _ _ _ 228 #[.val (.int p0), .val (.int p1), .val (.int p2), .val (.int p3), .val (.int p4), .val (.ref o1), .val (.int ((p1 &&& (7 : Int32)) % (6 : Int32))), .val (.ref o30), .val .null] [(.int (0 : Int32))]
              refine Own.ifYes W47 at_228 236 (by decide) (by decide) (by decide) ?_
              refine Own.aload W47 at_236 238 rfl (.ref o30) rfl rfl ?_
              refine Own.callS W47 (tw hw 49 rfl) (tw hw 50 rfl) (tw hw 51 rfl) (tw hw 52 rfl) (by decide) (argsL := [(.ref o30)]) (rest := []) (Own.Con.pay (con_named hw hEL hmem hS hcz TV AV XV TE0 LE0 SE0 TE1 LE1 SE1 TE2 LE2 SE2 W47.old (F30.ext X46)) W47 (tw hw 52 rfl) (tw hw 51 rfl) (len := 3) (wd := 0) (by decide) (by decide) (fun _ q => nomatch q)) rfl (lenOf pd_4 rfl) rfl (Nat.le_of_ble_eq_true rfl) at_238 241 rfl 14 90 (Nat.le_of_ble_eq_true rfl) (Nat.le_of_ble_eq_true rfl) (Nat.le_of_ble_eq_true rfl) (Nat.le_of_ble_eq_true rfl) ?_
              intro v50 T50 h50 u50 W50 R50 hq
              obtain ⟨hv50, E50⟩ := hq
              rcases hv50 with ⟨rfl, y0⟩ | ⟨rfl, n0, y1⟩ | ⟨rfl, n0, n1, y2⟩ | ⟨rfl, n0, n1, n2⟩
              · skip
                exact absurd y0 x0
              · skip
                exact absurd y1 x1
              · skip
                exact absurd y2 x2
              · skip
                show Own.Go _ _ _ _ _ 241 #[.val (.int p0), .val (.int p1), .val (.int p2), .val (.int p3), .val (.int p4), .val (.ref o1), .val (.int ((p1 &&& (7 : Int32)) % (6 : Int32))), .val (.ref o30), .val .null] [.null]
                refine Own.aload W50 at_241 243 rfl .null rfl rfl ?_
                refine Own.acmp W50 at_243 246 rfl rfl true (decide_eq_true rfl) (by decide) rfl ?_
                refine Own.iconst W50 at_246 247 rfl (1 : Int32) rfl ?_
                refine Own.goto W50 at_247 251 (by decide) (by decide) ?_
                exact Own.retB W50 (by decide) (by decide) rfl at_251 rfl rfl
  · skip
    refine Own.ifNo W1 at_8 11 (XT.i0_eq_f e1) rfl ?_
    refine Own.iloadN W1 at_11 12 rfl p0 rfl ?_
    refine Own.iconst W1 at_12 13 rfl (4 : Int32) rfl ?_
    refine Own.iushr W1 at_13 14 rfl ?_
    refine Own.iconst W1 at_14 15 rfl (3 : Int32) rfl ?_
    refine Own.iand W1 at_15 16 rfl ?_
    refine Own.iconst W1 at_16 17 rfl (3 : Int32) rfl ?_
    refine Own.irem W1 at_17 18 rfl (by decide) ?_
    refine Own.callS W1 (tw hw 74 rfl) (tw hw 75 rfl) (tw hw 3 rfl) (tw hw 76 rfl) (by decide) (argsL := [(.int ((((p0.toUInt32 >>> ((4 : Int32) &&& 31).toUInt32).toInt32) &&& (3 : Int32)) % (3 : Int32)))]) (rest := []) (Own.Con.pay (con_tmp hw hEL ((((p0.toUInt32 >>> ((4 : Int32) &&& 31).toUInt32).toInt32) &&& (3 : Int32)) % (3 : Int32)) W1.old) W1 (tw hw 76 rfl) (tw hw 3 rfl) (len := 3) (wd := 0) (by decide) (by decide) (fun _ q => nomatch q)) rfl (lenOf pd_5 rfl) rfl (Nat.le_of_ble_eq_true rfl) at_18 21 rfl 2 9 (Nat.le_of_ble_eq_true rfl) (Nat.le_of_ble_eq_true rfl) (Nat.le_of_ble_eq_true rfl) (Nat.le_of_ble_eq_true rfl) ?_
    intro v51 T51 h51 u51 W51 R51 hq
    obtain ⟨o51, rfl, E51, g51, F51⟩ := hq
    show Own.Go _ _ _ _ _ 21 #[.val (.int p0), .val (.int p1), .val (.int p2), .val (.int p3), .val (.int p4), .val (.ref o1), .unset, .unset, .unset] [(.ref o51)]
    refine Own.astore W51 at_21 23 rfl rfl #[.val (.int p0), .val (.int p1), .val (.int p2), .val (.int p3), .val (.int p4), .val (.ref o1), .val (.ref o51), .unset, .unset] rfl ?_
    refine Own.aload W51 at_23 25 rfl (.ref o1) rfl rfl ?_
    refine Own.iconst W51 at_25 26 rfl (0 : Int32) rfl ?_
    refine Own.aload W51 at_26 28 rfl (.ref o51) rfl rfl ?_
    refine Own.iconst W51 at_28 29 rfl (0 : Int32) rfl ?_
    refine Own.caloadC W51 F51 ⟨by decide, by decide⟩ at_29 30 rfl ?_
    intro c52 hc52
    have X54 : Ext h1 h51 := E51
    refine Own.castoreC W51 (V2.ext X54) ⟨by decide, by decide⟩ (Nat.le_trans W0.n0 (Nat.le_of_eq g1.symm)) hc52 at_30 31 rfl ?_
    intro T53 h53 W53 Q53 V53 k53
    refine Own.aload W53 at_31 33 rfl (.ref o1) rfl rfl ?_
    refine Own.iconst W53 at_33 34 rfl (1 : Int32) rfl ?_
    refine Own.aload W53 at_34 36 rfl (.ref o51) rfl rfl ?_
    refine Own.iconst W53 at_36 37 rfl (1 : Int32) rfl ?_
    refine Own.caloadC W53 (F51.other Q53 (Ne.symm (Nat.ne_of_lt (Nat.lt_of_lt_of_le V1.lt g51)))) ⟨by decide, by decide⟩ at_37 38 rfl ?_
    intro c55 hc55
    refine Own.castoreC W53 V53 ⟨by decide, by decide⟩ (Nat.le_trans W0.n0 (Nat.le_of_eq g1.symm)) hc55 at_38 39 rfl ?_
    intro T56 h56 W56 Q56 V56 k56
    refine Own.aload W56 at_39 41 rfl (.ref o1) rfl rfl ?_
    refine Own.iconst W56 at_41 42 rfl (2 : Int32) rfl ?_
    refine Own.aload W56 at_42 44 rfl (.ref o51) rfl rfl ?_
    refine Own.iconst W56 at_44 45 rfl (2 : Int32) rfl ?_
    refine Own.caloadC W56 ((F51.other Q53 (Ne.symm (Nat.ne_of_lt (Nat.lt_of_lt_of_le V1.lt g51)))).other Q56 (Ne.symm (Nat.ne_of_lt (Nat.lt_of_lt_of_le V1.lt g51)))) ⟨by decide, by decide⟩ at_45 46 rfl ?_
    intro c57 hc57
    refine Own.castoreC W56 V56 ⟨by decide, by decide⟩ (Nat.le_trans W0.n0 (Nat.le_of_eq g1.symm)) hc57 at_46 47 rfl ?_
    intro T58 h58 W58 Q58 V58 k58
    refine Own.aload W58 at_47 49 rfl (.ref o1) rfl rfl ?_
    refine Own.iconst W58 at_49 50 rfl (3 : Int32) rfl ?_
    refine Own.aload W58 at_50 52 rfl (.ref o51) rfl rfl ?_
    refine Own.iconst W58 at_52 53 rfl (3 : Int32) rfl ?_
    refine Own.caloadC W58 (((F51.other Q53 (Ne.symm (Nat.ne_of_lt (Nat.lt_of_lt_of_le V1.lt g51)))).other Q56 (Ne.symm (Nat.ne_of_lt (Nat.lt_of_lt_of_le V1.lt g51)))).other Q58 (Ne.symm (Nat.ne_of_lt (Nat.lt_of_lt_of_le V1.lt g51)))) ⟨by decide, by decide⟩ at_53 54 rfl ?_
    intro c59 hc59
    refine Own.castoreC W58 V58 ⟨by decide, by decide⟩ (Nat.le_trans W0.n0 (Nat.le_of_eq g1.symm)) hc59 at_54 55 rfl ?_
    intro T60 h60 W60 Q60 V60 k60
    refine Own.goto W60 at_55 107 (by decide) (by decide) ?_
    refine Own.aload W60 at_107 109 rfl (.ref o1) rfl rfl ?_
    refine Own.iconst W60 at_109 110 rfl (4 : Int32) rfl ?_
    refine Own.iloadN W60 at_110 111 rfl p3 rfl ?_
    refine Own.sipush W60 at_111 114 rfl (255 : Int32) rfl ?_
    refine Own.iand W60 at_114 115 rfl ?_
    refine Own.i2c W60 at_115 116 rfl ?_
    refine Own.castoreC W60 V60 ⟨by decide, by decide⟩ (Nat.le_trans W0.n0 (Nat.le_of_eq g1.symm)) (show Own.Rg _ from Own.lo_rng _) at_116 117 rfl ?_
    intro T61 h61 W61 Q61 V61 k61
    refine Own.iloadN W61 at_117 118 rfl p0 rfl ?_
    refine Own.iconst W61 at_118 119 rfl (2 : Int32) rfl ?_
    refine Own.iand W61 at_119 120 rfl ?_
    by_cases e2 : (p0 &&& (2 : Int32)) = (0 : Int32)
    · skip
      refine Own.ifYes W61 at_120 147 (XT.i0_eq_t e2) (by decide) (by decide) ?_
      refine Own.iloadN W61 at_147 148 rfl p1 rfl ?_
      refine Own.bipush W61 at_148 150 rfl (7 : Int32) rfl ?_
      refine Own.iand W61 at_150 151 rfl ?_
      refine Own.bipush W61 at_151 153 rfl (6 : Int32) rfl ?_
      refine Own.irem W61 at_153 154 rfl (by decide) ?_
      refine Own.istore W61 at_154 156 rfl #[.val (.int p0), .val (.int p1), .val (.int p2), .val (.int p3), .val (.int p4), .val (.ref o1), .val (.int ((p1 &&& (7 : Int32)) % (6 : Int32))), .unset, .unset] rfl ?_
      refine Own.aload W61 at_156 158 rfl (.ref o1) rfl rfl ?_
      refine Own.iload W61 at_158 160 rfl ((p1 &&& (7 : Int32)) % (6 : Int32)) rfl ?_
      refine Own.callS W61 (tw hw 1 rfl) (tw hw 2 rfl) (tw hw 3 rfl) (tw hw 4 rfl) (by decide) (argsL := [(.ref o1), (.int ((p1 &&& (7 : Int32)) % (6 : Int32)))]) (rest := []) (Own.Con.pay (con_bld hw hEL hmem hS hcz ((p1 &&& (7 : Int32)) % (6 : Int32)) W61.old V61) W61 (tw hw 4 rfl) (tw hw 3 rfl) (len := 3) (wd := 0) (by decide) (by decide) (fun _ q => nomatch q)) rfl (lenOf pd_3 rfl) rfl (Nat.le_of_ble_eq_true rfl) at_160 163 rfl 8 31 (Nat.le_of_ble_eq_true rfl) (Nat.le_of_ble_eq_true rfl) (Nat.le_of_ble_eq_true rfl) (Nat.le_of_ble_eq_true rfl) ?_
      intro v62 T62 h62 u62 W62 R62 hq
      obtain ⟨o62, cs62, rfl, E62, g62, F62⟩ := hq
      show Own.Go _ _ _ _ _ 163 #[.val (.int p0), .val (.int p1), .val (.int p2), .val (.int p3), .val (.int p4), .val (.ref o1), .val (.int ((p1 &&& (7 : Int32)) % (6 : Int32))), .unset, .unset] [(.ref o62)]
      refine Own.astore W62 at_163 165 rfl rfl #[.val (.int p0), .val (.int p1), .val (.int p2), .val (.int p3), .val (.int p4), .val (.ref o1), .val (.int ((p1 &&& (7 : Int32)) % (6 : Int32))), .val (.ref o62), .unset] rfl ?_
      refine Own.iloadN W62 at_165 166 rfl p0 rfl ?_
      refine Own.bipush W62 at_166 168 rfl (12 : Int32) rfl ?_
      refine Own.iand W62 at_168 169 rfl ?_
      refine Own.bipush W62 at_169 171 rfl (12 : Int32) rfl ?_
      by_cases hx : (p0 &&& (12 : Int32)) = (12 : Int32)
      · skip
        refine Own.icmpNo W62 at_171 174 (XT.ii_ne_f hx) rfl ?_
        refine Own.aconstNull W62 at_174 175 rfl ?_
        refine Own.astore W62 at_175 177 rfl rfl #[.val (.int p0), .val (.int p1), .val (.int p2), .val (.int p3), .val (.int p4), .val (.ref o1), .val (.int ((p1 &&& (7 : Int32)) % (6 : Int32))), .val .null, .unset] rfl ?_
        refine Own.aconstNull W62 at_177 178 rfl ?_
        refine Own.astore W62 at_178 180 rfl rfl #[.val (.int p0), .val (.int p1), .val (.int p2), .val (.int p3), .val (.int p4), .val (.ref o1), .val (.int ((p1 &&& (7 : Int32)) % (6 : Int32))), .val .null, .val .null] rfl ?_
        refine Own.aload W62 at_180 182 rfl .null rfl rfl ?_
        refine Own.ifnullYes W62 at_182 236 (by decide) (by decide) ?_
        refine Own.aload W62 at_236 238 rfl .null rfl rfl ?_
        refine Own.callS W62 (tw hw 49 rfl) (tw hw 50 rfl) (tw hw 51 rfl) (tw hw 52 rfl) (by decide) (argsL := [.null]) (rest := []) (Own.Con.pay (con_namedN hw hEL hmem hS hcz TV AV XV TE0 LE0 SE0 TE1 LE1 SE1 TE2 LE2 SE2 W62.old) W62 (tw hw 52 rfl) (tw hw 51 rfl) (len := 3) (wd := 0) (by decide) (by decide) (fun _ q => nomatch q)) rfl (lenOf pd_4 rfl) rfl (Nat.le_of_ble_eq_true rfl) at_238 241 rfl 9 34 (Nat.le_of_ble_eq_true rfl) (Nat.le_of_ble_eq_true rfl) (Nat.le_of_ble_eq_true rfl) (Nat.le_of_ble_eq_true rfl) ?_
        intro v63 T63 h63 u63 W63 R63 hq
        obtain ⟨rfl, E63⟩ := hq
        show Own.Go _ _ _ _ _ 241 #[.val (.int p0), .val (.int p1), .val (.int p2), .val (.int p3), .val (.int p4), .val (.ref o1), .val (.int ((p1 &&& (7 : Int32)) % (6 : Int32))), .val .null, .val .null] [.null]
        refine Own.aload W63 at_241 243 rfl .null rfl rfl ?_
        refine Own.acmp W63 at_243 246 rfl rfl true (decide_eq_true rfl) (by decide) rfl ?_
        refine Own.iconst W63 at_246 247 rfl (1 : Int32) rfl ?_
        refine Own.goto W63 at_247 251 (by decide) (by decide) ?_
        exact Own.retB W63 (by decide) (by decide) rfl at_251 rfl rfl
      · skip
        refine Own.icmpYes W62 at_171 177 (XT.ii_ne_t hx) (by decide) (by decide) ?_
        refine Own.aconstNull W62 at_177 178 rfl ?_
        refine Own.astore W62 at_178 180 rfl rfl #[.val (.int p0), .val (.int p1), .val (.int p2), .val (.int p3), .val (.int p4), .val (.ref o1), .val (.int ((p1 &&& (7 : Int32)) % (6 : Int32))), .val (.ref o62), .val .null] rfl ?_
        refine Own.aload W62 at_180 182 rfl (.ref o62) rfl rfl ?_
        refine Own.ifnullNo W62 at_182 185 rfl ?_
        refine Own.aload W62 at_185 187 rfl (.ref o62) rfl rfl ?_
        refine Own.ldcR W62 (tw hw 34 rfl) (Own.sAtoms (wS hw)) (by rw [hE]; decide) (vs := [(.int (104 : Int32)), (.int (111 : Int32)), (.int (108 : Int32)), (.int (100 : Int32))]) (z := (4 : Int32)) ⟨by decide, by decide⟩ (by decide) (by decide) at_187 189 rfl 16 (by decide) (by decide) 10 51 (Nat.le_of_ble_eq_true rfl) (Nat.le_of_ble_eq_true rfl) (Nat.le_of_ble_eq_true rfl) (Nat.le_of_ble_eq_true rfl) ?_
        intro v64 T64 h64 o64 b64 q64 W64 R64 E64 fa64 fc64 fv64 fb64 ne64
        have F64 : Own.Str G.Z h64 o64 [(104 : Int32), (111 : Int32), (108 : Int32), (100 : Int32)] := ⟨fa64, fc64, by decide, by decide, b64, q64, fv64, fb64⟩
        have X66 : Ext h62 h64 := E64
        have ZE65 := (F62.ext X66).exa
        refine Own.callV W64 (tw hw 37 rfl) (tw hw 38 rfl) (fun s q => notFace_of_selects (args := #[]) (mvT (s := s) q (tw hw 40 rfl))) (tw hw 40 rfl) (tw hw 39 rfl) (by decide) (argsL := [(.ref o64)]) (rest := []) (Own.payEq (wQ hw) (kI := 4) (tw hw 6 rfl) W64 (F62.ext X66) F64 hS hcz (len := 3) (wd := 0) (by decide) (by decide)) ZE65 rfl (lenOf pd_1 rfl) rfl (Nat.le_of_ble_eq_true rfl) at_189 192 rfl 10 51 (Nat.le_of_ble_eq_true rfl) (Nat.le_of_ble_eq_true rfl) (Nat.le_of_ble_eq_true rfl) (Nat.le_of_ble_eq_true rfl) ?_
        intro v67 T67 h67 u67 W67 R67 hq
        obtain ⟨hv67, eh67⟩ := hq
        have ei67 := eh67.symm; subst ei67
        rcases hv67 with ⟨rfl, x0⟩ | ⟨rfl, x0⟩
        · skip
          show Own.Go _ _ _ _ _ 192 #[.val (.int p0), .val (.int p1), .val (.int p2), .val (.int p3), .val (.int p4), .val (.ref o1), .val (.int ((p1 &&& (7 : Int32)) % (6 : Int32))), .val (.ref o62), .val .null] [(.int (1 : Int32))]
          refine Own.ifNo W67 at_192 195 (by decide) rfl ?_
          refine Own.getS W67 (tw hw 77 rfl) Via.refl (W67.sta TE0) at_195 198 rfl ?_
          intro T68 W68
          refine Own.astore W68 at_198 200 rfl rfl #[.val (.int p0), .val (.int p1), .val (.int p2), .val (.int p3), .val (.int p4), .val (.ref o1), .val (.int ((p1 &&& (7 : Int32)) % (6 : Int32))), .val (.ref o62), .val (.ref r0)] rfl ?_
          refine Own.goto W68 at_200 236 (by decide) (by decide) ?_
          refine Own.aload W68 at_236 238 rfl (.ref o62) rfl rfl ?_
          refine Own.callS W68 (tw hw 49 rfl) (tw hw 50 rfl) (tw hw 51 rfl) (tw hw 52 rfl) (by decide) (argsL := [(.ref o62)]) (rest := []) (Own.Con.pay (con_named hw hEL hmem hS hcz TV AV XV TE0 LE0 SE0 TE1 LE1 SE1 TE2 LE2 SE2 W68.old (F62.ext X66)) W68 (tw hw 52 rfl) (tw hw 51 rfl) (len := 3) (wd := 0) (by decide) (by decide) (fun _ q => nomatch q)) rfl (lenOf pd_4 rfl) rfl (Nat.le_of_ble_eq_true rfl) at_238 241 rfl 11 54 (Nat.le_of_ble_eq_true rfl) (Nat.le_of_ble_eq_true rfl) (Nat.le_of_ble_eq_true rfl) (Nat.le_of_ble_eq_true rfl) ?_
          intro v69 T69 h69 u69 W69 R69 hq
          obtain ⟨hv69, E69⟩ := hq
          rcases hv69 with ⟨rfl, y0⟩ | ⟨rfl, n0, y1⟩ | ⟨rfl, n0, n1, y2⟩ | ⟨rfl, n0, n1, n2⟩
          · skip
            show Own.Go _ _ _ _ _ 241 #[.val (.int p0), .val (.int p1), .val (.int p2), .val (.int p3), .val (.int p4), .val (.ref o1), .val (.int ((p1 &&& (7 : Int32)) % (6 : Int32))), .val (.ref o62), .val (.ref r0)] [(.ref r0)]
            refine Own.aload W69 at_241 243 rfl (.ref r0) rfl rfl ?_
            refine Own.acmp W69 at_243 246 rfl rfl true (decide_eq_true rfl) (by decide) rfl ?_
            refine Own.iconst W69 at_246 247 rfl (1 : Int32) rfl ?_
            refine Own.goto W69 at_247 251 (by decide) (by decide) ?_
            exact Own.retB W69 (by decide) (by decide) rfl at_251 rfl rfl
          · skip
            exact absurd x0 n0
          · skip
            exact absurd x0 n0
          · skip
            exact absurd x0 n0
        · skip
          show Own.Go _ _ _ _ _ 192 #[.val (.int p0), .val (.int p1), .val (.int p2), .val (.int p3), .val (.int p4), .val (.ref o1), .val (.int ((p1 &&& (7 : Int32)) % (6 : Int32))), .val (.ref o62), .val .null] [(.int (0 : Int32))]
          refine Own.ifYes W67 at_192 203 (by decide) (by decide) (by decide) ?_
          refine Own.aload W67 at_203 205 rfl (.ref o62) rfl rfl ?_
          refine Own.ldcR W67 (tw hw 47 rfl) (Own.sAtoms (wS hw)) (by rw [hE]; decide) (vs := [(.int (107 : Int32)), (.int (101 : Int32)), (.int (101 : Int32)), (.int (112 : Int32))]) (z := (4 : Int32)) ⟨by decide, by decide⟩ (by decide) (by decide) at_205 207 rfl 16 (by decide) (by decide) 12 71 (Nat.le_of_ble_eq_true rfl) (Nat.le_of_ble_eq_true rfl) (Nat.le_of_ble_eq_true rfl) (Nat.le_of_ble_eq_true rfl) ?_
          intro v70 T70 h70 o70 b70 q70 W70 R70 E70 fa70 fc70 fv70 fb70 ne70
          have F70 : Own.Str G.Z h70 o70 [(107 : Int32), (101 : Int32), (101 : Int32), (112 : Int32)] := ⟨fa70, fc70, by decide, by decide, b70, q70, fv70, fb70⟩
          have X72 : Ext h62 h70 := Own.Ext.tr X66 E70
          have ZE71 := (F62.ext X72).exa
          refine Own.callV W70 (tw hw 37 rfl) (tw hw 38 rfl) (fun s q => notFace_of_selects (args := #[]) (mvT (s := s) q (tw hw 40 rfl))) (tw hw 40 rfl) (tw hw 39 rfl) (by decide) (argsL := [(.ref o70)]) (rest := []) (Own.payEq (wQ hw) (kI := 4) (tw hw 6 rfl) W70 (F62.ext X72) F70 hS hcz (len := 3) (wd := 0) (by decide) (by decide)) ZE71 rfl (lenOf pd_1 rfl) rfl (Nat.le_of_ble_eq_true rfl) at_207 210 rfl 12 71 (Nat.le_of_ble_eq_true rfl) (Nat.le_of_ble_eq_true rfl) (Nat.le_of_ble_eq_true rfl) (Nat.le_of_ble_eq_true rfl) ?_
          intro v73 T73 h73 u73 W73 R73 hq
          obtain ⟨hv73, eh73⟩ := hq
          have ei73 := eh73.symm; subst ei73
          rcases hv73 with ⟨rfl, x1⟩ | ⟨rfl, x1⟩
          · skip
            show Own.Go _ _ _ _ _ 210 #[.val (.int p0), .val (.int p1), .val (.int p2), .val (.int p3), .val (.int p4), .val (.ref o1), .val (.int ((p1 &&& (7 : Int32)) % (6 : Int32))), .val (.ref o62), .val .null] [(.int (1 : Int32))]
            refine Own.ifNo W73 at_210 213 (by decide) rfl ?_
            refine Own.getS W73 (tw hw 80 rfl) Via.refl (W73.sta TE1) at_213 216 rfl ?_
            intro T74 W74
            refine Own.astore W74 at_216 218 rfl rfl #[.val (.int p0), .val (.int p1), .val (.int p2), .val (.int p3), .val (.int p4), .val (.ref o1), .val (.int ((p1 &&& (7 : Int32)) % (6 : Int32))), .val (.ref o62), .val (.ref r1)] rfl ?_
            refine Own.goto W74 at_218 236 (by decide) (by decide) ?_
            refine Own.aload W74 at_236 238 rfl (.ref o62) rfl rfl ?_
            refine Own.callS W74 (tw hw 49 rfl) (tw hw 50 rfl) (tw hw 51 rfl) (tw hw 52 rfl) (by decide) (argsL := [(.ref o62)]) (rest := []) (Own.Con.pay (con_named hw hEL hmem hS hcz TV AV XV TE0 LE0 SE0 TE1 LE1 SE1 TE2 LE2 SE2 W74.old (F62.ext X72)) W74 (tw hw 52 rfl) (tw hw 51 rfl) (len := 3) (wd := 0) (by decide) (by decide) (fun _ q => nomatch q)) rfl (lenOf pd_4 rfl) rfl (Nat.le_of_ble_eq_true rfl) at_238 241 rfl 13 74 (Nat.le_of_ble_eq_true rfl) (Nat.le_of_ble_eq_true rfl) (Nat.le_of_ble_eq_true rfl) (Nat.le_of_ble_eq_true rfl) ?_
            intro v75 T75 h75 u75 W75 R75 hq
            obtain ⟨hv75, E75⟩ := hq
            rcases hv75 with ⟨rfl, y0⟩ | ⟨rfl, n0, y1⟩ | ⟨rfl, n0, n1, y2⟩ | ⟨rfl, n0, n1, n2⟩
            · skip
              exact absurd y0 x0
            · skip
              show Own.Go _ _ _ _ _ 241 #[.val (.int p0), .val (.int p1), .val (.int p2), .val (.int p3), .val (.int p4), .val (.ref o1), .val (.int ((p1 &&& (7 : Int32)) % (6 : Int32))), .val (.ref o62), .val (.ref r1)] [(.ref r1)]
              refine Own.aload W75 at_241 243 rfl (.ref r1) rfl rfl ?_
              refine Own.acmp W75 at_243 246 rfl rfl true (decide_eq_true rfl) (by decide) rfl ?_
              refine Own.iconst W75 at_246 247 rfl (1 : Int32) rfl ?_
              refine Own.goto W75 at_247 251 (by decide) (by decide) ?_
              exact Own.retB W75 (by decide) (by decide) rfl at_251 rfl rfl
            · skip
              exact absurd x1 n1
            · skip
              exact absurd x1 n1
          · skip
            show Own.Go _ _ _ _ _ 210 #[.val (.int p0), .val (.int p1), .val (.int p2), .val (.int p3), .val (.int p4), .val (.ref o1), .val (.int ((p1 &&& (7 : Int32)) % (6 : Int32))), .val (.ref o62), .val .null] [(.int (0 : Int32))]
            refine Own.ifYes W73 at_210 221 (by decide) (by decide) (by decide) ?_
            refine Own.aload W73 at_221 223 rfl (.ref o62) rfl rfl ?_
            refine Own.ldcR W73 (tw hw 48 rfl) (Own.sAtoms (wS hw)) (by rw [hE]; decide) (vs := [(.int (110 : Int32)), (.int (111 : Int32)), (.int (110 : Int32)), (.int (101 : Int32))]) (z := (4 : Int32)) ⟨by decide, by decide⟩ (by decide) (by decide) at_223 225 rfl 16 (by decide) (by decide) 14 91 (Nat.le_of_ble_eq_true rfl) (Nat.le_of_ble_eq_true rfl) (Nat.le_of_ble_eq_true rfl) (Nat.le_of_ble_eq_true rfl) ?_
            intro v76 T76 h76 o76 b76 q76 W76 R76 E76 fa76 fc76 fv76 fb76 ne76
            have F76 : Own.Str G.Z h76 o76 [(110 : Int32), (111 : Int32), (110 : Int32), (101 : Int32)] := ⟨fa76, fc76, by decide, by decide, b76, q76, fv76, fb76⟩
            have X78 : Ext h62 h76 := Own.Ext.tr X72 E76
            have ZE77 := (F62.ext X78).exa
            refine Own.callV W76 (tw hw 37 rfl) (tw hw 38 rfl) (fun s q => notFace_of_selects (args := #[]) (mvT (s := s) q (tw hw 40 rfl))) (tw hw 40 rfl) (tw hw 39 rfl) (by decide) (argsL := [(.ref o76)]) (rest := []) (Own.payEq (wQ hw) (kI := 4) (tw hw 6 rfl) W76 (F62.ext X78) F76 hS hcz (len := 3) (wd := 0) (by decide) (by decide)) ZE77 rfl (lenOf pd_1 rfl) rfl (Nat.le_of_ble_eq_true rfl) at_225 228 rfl 14 91 (Nat.le_of_ble_eq_true rfl) (Nat.le_of_ble_eq_true rfl) (Nat.le_of_ble_eq_true rfl) (Nat.le_of_ble_eq_true rfl) ?_
            intro v79 T79 h79 u79 W79 R79 hq
            obtain ⟨hv79, eh79⟩ := hq
            have ei79 := eh79.symm; subst ei79
            rcases hv79 with ⟨rfl, x2⟩ | ⟨rfl, x2⟩
            · skip
              show Own.Go _ _ _ _ _ 228 #[.val (.int p0), .val (.int p1), .val (.int p2), .val (.int p3), .val (.int p4), .val (.ref o1), .val (.int ((p1 &&& (7 : Int32)) % (6 : Int32))), .val (.ref o62), .val .null] [(.int (1 : Int32))]
              refine Own.ifNo W79 at_228 231 (by decide) rfl ?_
              refine Own.getS W79 (tw hw 79 rfl) Via.refl (W79.sta TE2) at_231 234 rfl ?_
              intro T80 W80
              refine Own.astore W80 at_234 236 rfl rfl #[.val (.int p0), .val (.int p1), .val (.int p2), .val (.int p3), .val (.int p4), .val (.ref o1), .val (.int ((p1 &&& (7 : Int32)) % (6 : Int32))), .val (.ref o62), .val (.ref r2)] rfl ?_
              refine Own.aload W80 at_236 238 rfl (.ref o62) rfl rfl ?_
              refine Own.callS W80 (tw hw 49 rfl) (tw hw 50 rfl) (tw hw 51 rfl) (tw hw 52 rfl) (by decide) (argsL := [(.ref o62)]) (rest := []) (Own.Con.pay (con_named hw hEL hmem hS hcz TV AV XV TE0 LE0 SE0 TE1 LE1 SE1 TE2 LE2 SE2 W80.old (F62.ext X78)) W80 (tw hw 52 rfl) (tw hw 51 rfl) (len := 3) (wd := 0) (by decide) (by decide) (fun _ q => nomatch q)) rfl (lenOf pd_4 rfl) rfl (Nat.le_of_ble_eq_true rfl) at_238 241 rfl 15 94 (Nat.le_of_ble_eq_true rfl) (Nat.le_of_ble_eq_true rfl) (Nat.le_of_ble_eq_true rfl) (Nat.le_of_ble_eq_true rfl) ?_
              intro v81 T81 h81 u81 W81 R81 hq
              obtain ⟨hv81, E81⟩ := hq
              rcases hv81 with ⟨rfl, y0⟩ | ⟨rfl, n0, y1⟩ | ⟨rfl, n0, n1, y2⟩ | ⟨rfl, n0, n1, n2⟩
              · skip
                exact absurd y0 x0
              · skip
                exact absurd y1 x1
              · skip
                show Own.Go _ _ _ _ _ 241 #[.val (.int p0), .val (.int p1), .val (.int p2), .val (.int p3), .val (.int p4), .val (.ref o1), .val (.int ((p1 &&& (7 : Int32)) % (6 : Int32))), .val (.ref o62), .val (.ref r2)] [(.ref r2)]
                refine Own.aload W81 at_241 243 rfl (.ref r2) rfl rfl ?_
                refine Own.acmp W81 at_243 246 rfl rfl true (decide_eq_true rfl) (by decide) rfl ?_
                refine Own.iconst W81 at_246 247 rfl (1 : Int32) rfl ?_
                refine Own.goto W81 at_247 251 (by decide) (by decide) ?_
                exact Own.retB W81 (by decide) (by decide) rfl at_251 rfl rfl
              · skip
                exact absurd x2 n2
            · skip
              show Own.Go _ _ _ _ _ 228 #[.val (.int p0), .val (.int p1), .val (.int p2), .val (.int p3), .val (.int p4), .val (.ref o1), .val (.int ((p1 &&& (7 : Int32)) % (6 : Int32))), .val (.ref o62), .val .null] [(.int (0 : Int32))]
              refine Own.ifYes W79 at_228 236 (by decide) (by decide) (by decide) ?_
              refine Own.aload W79 at_236 238 rfl (.ref o62) rfl rfl ?_
              refine Own.callS W79 (tw hw 49 rfl) (tw hw 50 rfl) (tw hw 51 rfl) (tw hw 52 rfl) (by decide) (argsL := [(.ref o62)]) (rest := []) (Own.Con.pay (con_named hw hEL hmem hS hcz TV AV XV TE0 LE0 SE0 TE1 LE1 SE1 TE2 LE2 SE2 W79.old (F62.ext X78)) W79 (tw hw 52 rfl) (tw hw 51 rfl) (len := 3) (wd := 0) (by decide) (by decide) (fun _ q => nomatch q)) rfl (lenOf pd_4 rfl) rfl (Nat.le_of_ble_eq_true rfl) at_238 241 rfl 15 94 (Nat.le_of_ble_eq_true rfl) (Nat.le_of_ble_eq_true rfl) (Nat.le_of_ble_eq_true rfl) (Nat.le_of_ble_eq_true rfl) ?_
              intro v82 T82 h82 u82 W82 R82 hq
              obtain ⟨hv82, E82⟩ := hq
              rcases hv82 with ⟨rfl, y0⟩ | ⟨rfl, n0, y1⟩ | ⟨rfl, n0, n1, y2⟩ | ⟨rfl, n0, n1, n2⟩
              · skip
                exact absurd y0 x0
              · skip
                exact absurd y1 x1
              · skip
                exact absurd y2 x2
              · skip
                show Own.Go _ _ _ _ _ 241 #[.val (.int p0), .val (.int p1), .val (.int p2), .val (.int p3), .val (.int p4), .val (.ref o1), .val (.int ((p1 &&& (7 : Int32)) % (6 : Int32))), .val (.ref o62), .val .null] [.null]
                refine Own.aload W82 at_241 243 rfl .null rfl rfl ?_
                refine Own.acmp W82 at_243 246 rfl rfl true (decide_eq_true rfl) (by decide) rfl ?_
                refine Own.iconst W82 at_246 247 rfl (1 : Int32) rfl ?_
                refine Own.goto W82 at_247 251 (by decide) (by decide) ?_
                exact Own.retB W82 (by decide) (by decide) rfl at_251 rfl rfl
    · skip
      refine Own.ifNo W61 at_120 123 (XT.i0_eq_f e2) rfl ?_
      refine Own.iload W61 at_123 125 rfl p4 rfl ?_
      refine Own.bipush W61 at_125 127 rfl (8 : Int32) rfl ?_
      refine Own.iushr W61 at_127 128 rfl ?_
      refine Own.bipush W61 at_128 130 rfl (7 : Int32) rfl ?_
      refine Own.iand W61 at_130 131 rfl ?_
      refine Own.iconst W61 at_131 132 rfl (5 : Int32) rfl ?_
      refine Own.irem W61 at_132 133 rfl (by decide) ?_
      refine Own.istore W61 at_133 135 rfl #[.val (.int p0), .val (.int p1), .val (.int p2), .val (.int p3), .val (.int p4), .val (.ref o1), .val (.int ((((p4.toUInt32 >>> ((8 : Int32) &&& 31).toUInt32).toInt32) &&& (7 : Int32)) % (5 : Int32))), .unset, .unset] rfl ?_
      refine Own.aload W61 at_135 137 rfl (.ref o1) rfl rfl ?_
      refine Own.iload W61 at_137 139 rfl ((((p4.toUInt32 >>> ((8 : Int32) &&& 31).toUInt32).toInt32) &&& (7 : Int32)) % (5 : Int32)) rfl ?_
      refine Own.iload W61 at_139 141 rfl p4 rfl ?_
      refine Own.sipush W61 at_141 144 rfl (255 : Int32) rfl ?_
      refine Own.iand W61 at_144 145 rfl ?_
      refine Own.i2c W61 at_145 146 rfl ?_
      refine Own.castoreC W61 V61 (pos5 _) (Nat.le_trans W0.n0 (Nat.le_of_eq g1.symm)) (show Own.Rg _ from Own.lo_rng _) at_146 147 rfl ?_
      intro T83 h83 W83 Q83 V83 k83
      refine Own.iloadN W83 at_147 148 rfl p1 rfl ?_
      refine Own.bipush W83 at_148 150 rfl (7 : Int32) rfl ?_
      refine Own.iand W83 at_150 151 rfl ?_
      refine Own.bipush W83 at_151 153 rfl (6 : Int32) rfl ?_
      refine Own.irem W83 at_153 154 rfl (by decide) ?_
      refine Own.istore W83 at_154 156 rfl #[.val (.int p0), .val (.int p1), .val (.int p2), .val (.int p3), .val (.int p4), .val (.ref o1), .val (.int ((p1 &&& (7 : Int32)) % (6 : Int32))), .unset, .unset] rfl ?_
      refine Own.aload W83 at_156 158 rfl (.ref o1) rfl rfl ?_
      refine Own.iload W83 at_158 160 rfl ((p1 &&& (7 : Int32)) % (6 : Int32)) rfl ?_
      refine Own.callS W83 (tw hw 1 rfl) (tw hw 2 rfl) (tw hw 3 rfl) (tw hw 4 rfl) (by decide) (argsL := [(.ref o1), (.int ((p1 &&& (7 : Int32)) % (6 : Int32)))]) (rest := []) (Own.Con.pay (con_bld hw hEL hmem hS hcz ((p1 &&& (7 : Int32)) % (6 : Int32)) W83.old V83) W83 (tw hw 4 rfl) (tw hw 3 rfl) (len := 3) (wd := 0) (by decide) (by decide) (fun _ q => nomatch q)) rfl (lenOf pd_3 rfl) rfl (Nat.le_of_ble_eq_true rfl) at_160 163 rfl 8 31 (Nat.le_of_ble_eq_true rfl) (Nat.le_of_ble_eq_true rfl) (Nat.le_of_ble_eq_true rfl) (Nat.le_of_ble_eq_true rfl) ?_
      intro v84 T84 h84 u84 W84 R84 hq
      obtain ⟨o84, cs84, rfl, E84, g84, F84⟩ := hq
      show Own.Go _ _ _ _ _ 163 #[.val (.int p0), .val (.int p1), .val (.int p2), .val (.int p3), .val (.int p4), .val (.ref o1), .val (.int ((p1 &&& (7 : Int32)) % (6 : Int32))), .unset, .unset] [(.ref o84)]
      refine Own.astore W84 at_163 165 rfl rfl #[.val (.int p0), .val (.int p1), .val (.int p2), .val (.int p3), .val (.int p4), .val (.ref o1), .val (.int ((p1 &&& (7 : Int32)) % (6 : Int32))), .val (.ref o84), .unset] rfl ?_
      refine Own.iloadN W84 at_165 166 rfl p0 rfl ?_
      refine Own.bipush W84 at_166 168 rfl (12 : Int32) rfl ?_
      refine Own.iand W84 at_168 169 rfl ?_
      refine Own.bipush W84 at_169 171 rfl (12 : Int32) rfl ?_
      by_cases hx : (p0 &&& (12 : Int32)) = (12 : Int32)
      · skip
        refine Own.icmpNo W84 at_171 174 (XT.ii_ne_f hx) rfl ?_
        refine Own.aconstNull W84 at_174 175 rfl ?_
        refine Own.astore W84 at_175 177 rfl rfl #[.val (.int p0), .val (.int p1), .val (.int p2), .val (.int p3), .val (.int p4), .val (.ref o1), .val (.int ((p1 &&& (7 : Int32)) % (6 : Int32))), .val .null, .unset] rfl ?_
        refine Own.aconstNull W84 at_177 178 rfl ?_
        refine Own.astore W84 at_178 180 rfl rfl #[.val (.int p0), .val (.int p1), .val (.int p2), .val (.int p3), .val (.int p4), .val (.ref o1), .val (.int ((p1 &&& (7 : Int32)) % (6 : Int32))), .val .null, .val .null] rfl ?_
        refine Own.aload W84 at_180 182 rfl .null rfl rfl ?_
        refine Own.ifnullYes W84 at_182 236 (by decide) (by decide) ?_
        refine Own.aload W84 at_236 238 rfl .null rfl rfl ?_
        refine Own.callS W84 (tw hw 49 rfl) (tw hw 50 rfl) (tw hw 51 rfl) (tw hw 52 rfl) (by decide) (argsL := [.null]) (rest := []) (Own.Con.pay (con_namedN hw hEL hmem hS hcz TV AV XV TE0 LE0 SE0 TE1 LE1 SE1 TE2 LE2 SE2 W84.old) W84 (tw hw 52 rfl) (tw hw 51 rfl) (len := 3) (wd := 0) (by decide) (by decide) (fun _ q => nomatch q)) rfl (lenOf pd_4 rfl) rfl (Nat.le_of_ble_eq_true rfl) at_238 241 rfl 9 34 (Nat.le_of_ble_eq_true rfl) (Nat.le_of_ble_eq_true rfl) (Nat.le_of_ble_eq_true rfl) (Nat.le_of_ble_eq_true rfl) ?_
        intro v85 T85 h85 u85 W85 R85 hq
        obtain ⟨rfl, E85⟩ := hq
        show Own.Go _ _ _ _ _ 241 #[.val (.int p0), .val (.int p1), .val (.int p2), .val (.int p3), .val (.int p4), .val (.ref o1), .val (.int ((p1 &&& (7 : Int32)) % (6 : Int32))), .val .null, .val .null] [.null]
        refine Own.aload W85 at_241 243 rfl .null rfl rfl ?_
        refine Own.acmp W85 at_243 246 rfl rfl true (decide_eq_true rfl) (by decide) rfl ?_
        refine Own.iconst W85 at_246 247 rfl (1 : Int32) rfl ?_
        refine Own.goto W85 at_247 251 (by decide) (by decide) ?_
        exact Own.retB W85 (by decide) (by decide) rfl at_251 rfl rfl
      · skip
        refine Own.icmpYes W84 at_171 177 (XT.ii_ne_t hx) (by decide) (by decide) ?_
        refine Own.aconstNull W84 at_177 178 rfl ?_
        refine Own.astore W84 at_178 180 rfl rfl #[.val (.int p0), .val (.int p1), .val (.int p2), .val (.int p3), .val (.int p4), .val (.ref o1), .val (.int ((p1 &&& (7 : Int32)) % (6 : Int32))), .val (.ref o84), .val .null] rfl ?_
        refine Own.aload W84 at_180 182 rfl (.ref o84) rfl rfl ?_
        refine Own.ifnullNo W84 at_182 185 rfl ?_
        refine Own.aload W84 at_185 187 rfl (.ref o84) rfl rfl ?_
        refine Own.ldcR W84 (tw hw 34 rfl) (Own.sAtoms (wS hw)) (by rw [hE]; decide) (vs := [(.int (104 : Int32)), (.int (111 : Int32)), (.int (108 : Int32)), (.int (100 : Int32))]) (z := (4 : Int32)) ⟨by decide, by decide⟩ (by decide) (by decide) at_187 189 rfl 16 (by decide) (by decide) 10 51 (Nat.le_of_ble_eq_true rfl) (Nat.le_of_ble_eq_true rfl) (Nat.le_of_ble_eq_true rfl) (Nat.le_of_ble_eq_true rfl) ?_
        intro v86 T86 h86 o86 b86 q86 W86 R86 E86 fa86 fc86 fv86 fb86 ne86
        have F86 : Own.Str G.Z h86 o86 [(104 : Int32), (111 : Int32), (108 : Int32), (100 : Int32)] := ⟨fa86, fc86, by decide, by decide, b86, q86, fv86, fb86⟩
        have X88 : Ext h84 h86 := E86
        have ZE87 := (F84.ext X88).exa
        refine Own.callV W86 (tw hw 37 rfl) (tw hw 38 rfl) (fun s q => notFace_of_selects (args := #[]) (mvT (s := s) q (tw hw 40 rfl))) (tw hw 40 rfl) (tw hw 39 rfl) (by decide) (argsL := [(.ref o86)]) (rest := []) (Own.payEq (wQ hw) (kI := 4) (tw hw 6 rfl) W86 (F84.ext X88) F86 hS hcz (len := 3) (wd := 0) (by decide) (by decide)) ZE87 rfl (lenOf pd_1 rfl) rfl (Nat.le_of_ble_eq_true rfl) at_189 192 rfl 10 51 (Nat.le_of_ble_eq_true rfl) (Nat.le_of_ble_eq_true rfl) (Nat.le_of_ble_eq_true rfl) (Nat.le_of_ble_eq_true rfl) ?_
        intro v89 T89 h89 u89 W89 R89 hq
        obtain ⟨hv89, eh89⟩ := hq
        have ei89 := eh89.symm; subst ei89
        rcases hv89 with ⟨rfl, x0⟩ | ⟨rfl, x0⟩
        · skip
          show Own.Go _ _ _ _ _ 192 #[.val (.int p0), .val (.int p1), .val (.int p2), .val (.int p3), .val (.int p4), .val (.ref o1), .val (.int ((p1 &&& (7 : Int32)) % (6 : Int32))), .val (.ref o84), .val .null] [(.int (1 : Int32))]
          refine Own.ifNo W89 at_192 195 (by decide) rfl ?_
          refine Own.getS W89 (tw hw 77 rfl) Via.refl (W89.sta TE0) at_195 198 rfl ?_
          intro T90 W90
          refine Own.astore W90 at_198 200 rfl rfl #[.val (.int p0), .val (.int p1), .val (.int p2), .val (.int p3), .val (.int p4), .val (.ref o1), .val (.int ((p1 &&& (7 : Int32)) % (6 : Int32))), .val (.ref o84), .val (.ref r0)] rfl ?_
          refine Own.goto W90 at_200 236 (by decide) (by decide) ?_
          refine Own.aload W90 at_236 238 rfl (.ref o84) rfl rfl ?_
          refine Own.callS W90 (tw hw 49 rfl) (tw hw 50 rfl) (tw hw 51 rfl) (tw hw 52 rfl) (by decide) (argsL := [(.ref o84)]) (rest := []) (Own.Con.pay (con_named hw hEL hmem hS hcz TV AV XV TE0 LE0 SE0 TE1 LE1 SE1 TE2 LE2 SE2 W90.old (F84.ext X88)) W90 (tw hw 52 rfl) (tw hw 51 rfl) (len := 3) (wd := 0) (by decide) (by decide) (fun _ q => nomatch q)) rfl (lenOf pd_4 rfl) rfl (Nat.le_of_ble_eq_true rfl) at_238 241 rfl 11 54 (Nat.le_of_ble_eq_true rfl) (Nat.le_of_ble_eq_true rfl) (Nat.le_of_ble_eq_true rfl) (Nat.le_of_ble_eq_true rfl) ?_
          intro v91 T91 h91 u91 W91 R91 hq
          obtain ⟨hv91, E91⟩ := hq
          rcases hv91 with ⟨rfl, y0⟩ | ⟨rfl, n0, y1⟩ | ⟨rfl, n0, n1, y2⟩ | ⟨rfl, n0, n1, n2⟩
          · skip
            show Own.Go _ _ _ _ _ 241 #[.val (.int p0), .val (.int p1), .val (.int p2), .val (.int p3), .val (.int p4), .val (.ref o1), .val (.int ((p1 &&& (7 : Int32)) % (6 : Int32))), .val (.ref o84), .val (.ref r0)] [(.ref r0)]
            refine Own.aload W91 at_241 243 rfl (.ref r0) rfl rfl ?_
            refine Own.acmp W91 at_243 246 rfl rfl true (decide_eq_true rfl) (by decide) rfl ?_
            refine Own.iconst W91 at_246 247 rfl (1 : Int32) rfl ?_
            refine Own.goto W91 at_247 251 (by decide) (by decide) ?_
            exact Own.retB W91 (by decide) (by decide) rfl at_251 rfl rfl
          · skip
            exact absurd x0 n0
          · skip
            exact absurd x0 n0
          · skip
            exact absurd x0 n0
        · skip
          show Own.Go _ _ _ _ _ 192 #[.val (.int p0), .val (.int p1), .val (.int p2), .val (.int p3), .val (.int p4), .val (.ref o1), .val (.int ((p1 &&& (7 : Int32)) % (6 : Int32))), .val (.ref o84), .val .null] [(.int (0 : Int32))]
          refine Own.ifYes W89 at_192 203 (by decide) (by decide) (by decide) ?_
          refine Own.aload W89 at_203 205 rfl (.ref o84) rfl rfl ?_
          refine Own.ldcR W89 (tw hw 47 rfl) (Own.sAtoms (wS hw)) (by rw [hE]; decide) (vs := [(.int (107 : Int32)), (.int (101 : Int32)), (.int (101 : Int32)), (.int (112 : Int32))]) (z := (4 : Int32)) ⟨by decide, by decide⟩ (by decide) (by decide) at_205 207 rfl 16 (by decide) (by decide) 12 71 (Nat.le_of_ble_eq_true rfl) (Nat.le_of_ble_eq_true rfl) (Nat.le_of_ble_eq_true rfl) (Nat.le_of_ble_eq_true rfl) ?_
          intro v92 T92 h92 o92 b92 q92 W92 R92 E92 fa92 fc92 fv92 fb92 ne92
          have F92 : Own.Str G.Z h92 o92 [(107 : Int32), (101 : Int32), (101 : Int32), (112 : Int32)] := ⟨fa92, fc92, by decide, by decide, b92, q92, fv92, fb92⟩
          have X94 : Ext h84 h92 := Own.Ext.tr X88 E92
          have ZE93 := (F84.ext X94).exa
          refine Own.callV W92 (tw hw 37 rfl) (tw hw 38 rfl) (fun s q => notFace_of_selects (args := #[]) (mvT (s := s) q (tw hw 40 rfl))) (tw hw 40 rfl) (tw hw 39 rfl) (by decide) (argsL := [(.ref o92)]) (rest := []) (Own.payEq (wQ hw) (kI := 4) (tw hw 6 rfl) W92 (F84.ext X94) F92 hS hcz (len := 3) (wd := 0) (by decide) (by decide)) ZE93 rfl (lenOf pd_1 rfl) rfl (Nat.le_of_ble_eq_true rfl) at_207 210 rfl 12 71 (Nat.le_of_ble_eq_true rfl) (Nat.le_of_ble_eq_true rfl) (Nat.le_of_ble_eq_true rfl) (Nat.le_of_ble_eq_true rfl) ?_
          intro v95 T95 h95 u95 W95 R95 hq
          obtain ⟨hv95, eh95⟩ := hq
          have ei95 := eh95.symm; subst ei95
          rcases hv95 with ⟨rfl, x1⟩ | ⟨rfl, x1⟩
          · skip
            show Own.Go _ _ _ _ _ 210 #[.val (.int p0), .val (.int p1), .val (.int p2), .val (.int p3), .val (.int p4), .val (.ref o1), .val (.int ((p1 &&& (7 : Int32)) % (6 : Int32))), .val (.ref o84), .val .null] [(.int (1 : Int32))]
            refine Own.ifNo W95 at_210 213 (by decide) rfl ?_
            refine Own.getS W95 (tw hw 80 rfl) Via.refl (W95.sta TE1) at_213 216 rfl ?_
            intro T96 W96
            refine Own.astore W96 at_216 218 rfl rfl #[.val (.int p0), .val (.int p1), .val (.int p2), .val (.int p3), .val (.int p4), .val (.ref o1), .val (.int ((p1 &&& (7 : Int32)) % (6 : Int32))), .val (.ref o84), .val (.ref r1)] rfl ?_
            refine Own.goto W96 at_218 236 (by decide) (by decide) ?_
            refine Own.aload W96 at_236 238 rfl (.ref o84) rfl rfl ?_
            refine Own.callS W96 (tw hw 49 rfl) (tw hw 50 rfl) (tw hw 51 rfl) (tw hw 52 rfl) (by decide) (argsL := [(.ref o84)]) (rest := []) (Own.Con.pay (con_named hw hEL hmem hS hcz TV AV XV TE0 LE0 SE0 TE1 LE1 SE1 TE2 LE2 SE2 W96.old (F84.ext X94)) W96 (tw hw 52 rfl) (tw hw 51 rfl) (len := 3) (wd := 0) (by decide) (by decide) (fun _ q => nomatch q)) rfl (lenOf pd_4 rfl) rfl (Nat.le_of_ble_eq_true rfl) at_238 241 rfl 13 74 (Nat.le_of_ble_eq_true rfl) (Nat.le_of_ble_eq_true rfl) (Nat.le_of_ble_eq_true rfl) (Nat.le_of_ble_eq_true rfl) ?_
            intro v97 T97 h97 u97 W97 R97 hq
            obtain ⟨hv97, E97⟩ := hq
            rcases hv97 with ⟨rfl, y0⟩ | ⟨rfl, n0, y1⟩ | ⟨rfl, n0, n1, y2⟩ | ⟨rfl, n0, n1, n2⟩
            · skip
              exact absurd y0 x0
            · skip
              show Own.Go _ _ _ _ _ 241 #[.val (.int p0), .val (.int p1), .val (.int p2), .val (.int p3), .val (.int p4), .val (.ref o1), .val (.int ((p1 &&& (7 : Int32)) % (6 : Int32))), .val (.ref o84), .val (.ref r1)] [(.ref r1)]
              refine Own.aload W97 at_241 243 rfl (.ref r1) rfl rfl ?_
              refine Own.acmp W97 at_243 246 rfl rfl true (decide_eq_true rfl) (by decide) rfl ?_
              refine Own.iconst W97 at_246 247 rfl (1 : Int32) rfl ?_
              refine Own.goto W97 at_247 251 (by decide) (by decide) ?_
              exact Own.retB W97 (by decide) (by decide) rfl at_251 rfl rfl
            · skip
              exact absurd x1 n1
            · skip
              exact absurd x1 n1
          · skip
            show Own.Go _ _ _ _ _ 210 #[.val (.int p0), .val (.int p1), .val (.int p2), .val (.int p3), .val (.int p4), .val (.ref o1), .val (.int ((p1 &&& (7 : Int32)) % (6 : Int32))), .val (.ref o84), .val .null] [(.int (0 : Int32))]
            refine Own.ifYes W95 at_210 221 (by decide) (by decide) (by decide) ?_
            refine Own.aload W95 at_221 223 rfl (.ref o84) rfl rfl ?_
            refine Own.ldcR W95 (tw hw 48 rfl) (Own.sAtoms (wS hw)) (by rw [hE]; decide) (vs := [(.int (110 : Int32)), (.int (111 : Int32)), (.int (110 : Int32)), (.int (101 : Int32))]) (z := (4 : Int32)) ⟨by decide, by decide⟩ (by decide) (by decide) at_223 225 rfl 16 (by decide) (by decide) 14 91 (Nat.le_of_ble_eq_true rfl) (Nat.le_of_ble_eq_true rfl) (Nat.le_of_ble_eq_true rfl) (Nat.le_of_ble_eq_true rfl) ?_
            intro v98 T98 h98 o98 b98 q98 W98 R98 E98 fa98 fc98 fv98 fb98 ne98
            have F98 : Own.Str G.Z h98 o98 [(110 : Int32), (111 : Int32), (110 : Int32), (101 : Int32)] := ⟨fa98, fc98, by decide, by decide, b98, q98, fv98, fb98⟩
            have X100 : Ext h84 h98 := Own.Ext.tr X94 E98
            have ZE99 := (F84.ext X100).exa
            refine Own.callV W98 (tw hw 37 rfl) (tw hw 38 rfl) (fun s q => notFace_of_selects (args := #[]) (mvT (s := s) q (tw hw 40 rfl))) (tw hw 40 rfl) (tw hw 39 rfl) (by decide) (argsL := [(.ref o98)]) (rest := []) (Own.payEq (wQ hw) (kI := 4) (tw hw 6 rfl) W98 (F84.ext X100) F98 hS hcz (len := 3) (wd := 0) (by decide) (by decide)) ZE99 rfl (lenOf pd_1 rfl) rfl (Nat.le_of_ble_eq_true rfl) at_225 228 rfl 14 91 (Nat.le_of_ble_eq_true rfl) (Nat.le_of_ble_eq_true rfl) (Nat.le_of_ble_eq_true rfl) (Nat.le_of_ble_eq_true rfl) ?_
            intro v101 T101 h101 u101 W101 R101 hq
            obtain ⟨hv101, eh101⟩ := hq
            have ei101 := eh101.symm; subst ei101
            rcases hv101 with ⟨rfl, x2⟩ | ⟨rfl, x2⟩
            · skip
              show Own.Go _ _ _ _ _ 228 #[.val (.int p0), .val (.int p1), .val (.int p2), .val (.int p3), .val (.int p4), .val (.ref o1), .val (.int ((p1 &&& (7 : Int32)) % (6 : Int32))), .val (.ref o84), .val .null] [(.int (1 : Int32))]
              refine Own.ifNo W101 at_228 231 (by decide) rfl ?_
              refine Own.getS W101 (tw hw 79 rfl) Via.refl (W101.sta TE2) at_231 234 rfl ?_
              intro T102 W102
              refine Own.astore W102 at_234 236 rfl rfl #[.val (.int p0), .val (.int p1), .val (.int p2), .val (.int p3), .val (.int p4), .val (.ref o1), .val (.int ((p1 &&& (7 : Int32)) % (6 : Int32))), .val (.ref o84), .val (.ref r2)] rfl ?_
              refine Own.aload W102 at_236 238 rfl (.ref o84) rfl rfl ?_
              refine Own.callS W102 (tw hw 49 rfl) (tw hw 50 rfl) (tw hw 51 rfl) (tw hw 52 rfl) (by decide) (argsL := [(.ref o84)]) (rest := []) (Own.Con.pay (con_named hw hEL hmem hS hcz TV AV XV TE0 LE0 SE0 TE1 LE1 SE1 TE2 LE2 SE2 W102.old (F84.ext X100)) W102 (tw hw 52 rfl) (tw hw 51 rfl) (len := 3) (wd := 0) (by decide) (by decide) (fun _ q => nomatch q)) rfl (lenOf pd_4 rfl) rfl (Nat.le_of_ble_eq_true rfl) at_238 241 rfl 15 94 (Nat.le_of_ble_eq_true rfl) (Nat.le_of_ble_eq_true rfl) (Nat.le_of_ble_eq_true rfl) (Nat.le_of_ble_eq_true rfl) ?_
              intro v103 T103 h103 u103 W103 R103 hq
              obtain ⟨hv103, E103⟩ := hq
              rcases hv103 with ⟨rfl, y0⟩ | ⟨rfl, n0, y1⟩ | ⟨rfl, n0, n1, y2⟩ | ⟨rfl, n0, n1, n2⟩
              · skip
                exact absurd y0 x0
              · skip
                exact absurd y1 x1
              · skip
                show Own.Go _ _ _ _ _ 241 #[.val (.int p0), .val (.int p1), .val (.int p2), .val (.int p3), .val (.int p4), .val (.ref o1), .val (.int ((p1 &&& (7 : Int32)) % (6 : Int32))), .val (.ref o84), .val (.ref r2)] [(.ref r2)]
                refine Own.aload W103 at_241 243 rfl (.ref r2) rfl rfl ?_
                refine Own.acmp W103 at_243 246 rfl rfl true (decide_eq_true rfl) (by decide) rfl ?_
                refine Own.iconst W103 at_246 247 rfl (1 : Int32) rfl ?_
                refine Own.goto W103 at_247 251 (by decide) (by decide) ?_
                exact Own.retB W103 (by decide) (by decide) rfl at_251 rfl rfl
              · skip
                exact absurd x2 n2
            · skip
              show Own.Go _ _ _ _ _ 228 #[.val (.int p0), .val (.int p1), .val (.int p2), .val (.int p3), .val (.int p4), .val (.ref o1), .val (.int ((p1 &&& (7 : Int32)) % (6 : Int32))), .val (.ref o84), .val .null] [(.int (0 : Int32))]
              refine Own.ifYes W101 at_228 236 (by decide) (by decide) (by decide) ?_
              refine Own.aload W101 at_236 238 rfl (.ref o84) rfl rfl ?_
              refine Own.callS W101 (tw hw 49 rfl) (tw hw 50 rfl) (tw hw 51 rfl) (tw hw 52 rfl) (by decide) (argsL := [(.ref o84)]) (rest := []) (Own.Con.pay (con_named hw hEL hmem hS hcz TV AV XV TE0 LE0 SE0 TE1 LE1 SE1 TE2 LE2 SE2 W101.old (F84.ext X100)) W101 (tw hw 52 rfl) (tw hw 51 rfl) (len := 3) (wd := 0) (by decide) (by decide) (fun _ q => nomatch q)) rfl (lenOf pd_4 rfl) rfl (Nat.le_of_ble_eq_true rfl) at_238 241 rfl 15 94 (Nat.le_of_ble_eq_true rfl) (Nat.le_of_ble_eq_true rfl) (Nat.le_of_ble_eq_true rfl) (Nat.le_of_ble_eq_true rfl) ?_
              intro v104 T104 h104 u104 W104 R104 hq
              obtain ⟨hv104, E104⟩ := hq
              rcases hv104 with ⟨rfl, y0⟩ | ⟨rfl, n0, y1⟩ | ⟨rfl, n0, n1, y2⟩ | ⟨rfl, n0, n1, n2⟩
              · skip
                exact absurd y0 x0
              · skip
                exact absurd y1 x1
              · skip
                exact absurd y2 x2
              · skip
                show Own.Go _ _ _ _ _ 241 #[.val (.int p0), .val (.int p1), .val (.int p2), .val (.int p3), .val (.int p4), .val (.ref o1), .val (.int ((p1 &&& (7 : Int32)) % (6 : Int32))), .val (.ref o84), .val .null] [.null]
                refine Own.aload W104 at_241 243 rfl .null rfl rfl ?_
                refine Own.acmp W104 at_243 246 rfl rfl true (decide_eq_true rfl) (by decide) rfl ?_
                refine Own.iconst W104 at_246 247 rfl (1 : Int32) rfl ?_
                refine Own.goto W104 at_247 251 (by decide) (by decide) ?_
                exact Own.retB W104 (by decide) (by decide) rfl at_251 rfl rfl
theorem elW {G : Own.Gl} (hw : ∀ d ∈ tables_1, d.before G.a0 G.Z = true) : EW G.Z G.a0 consts_1 := (EW.cons (tw hw 34 rfl) (by decide) (EW.cons (tw hw 47 rfl) (by decide) (EW.cons (tw hw 48 rfl) (by decide) (EW.cons (tw hw 78 rfl) (by decide) EW.nil))))
set_option maxRecDepth 65536 in
set_option maxHeartbeats 40000000 in
theorem comes_1 {Post : Tables → Env → Array Value → State → Outcome → State → Prop} (hpost : ∀ tb e args s v u, (limb_1_1.after args s (.returned v) u = true ∧ limb_1_2.after args s (.returned v) u = true ∧ True) → ReturnedEndW s (.returned v) u (Jvm.fieldLocs frame_1_writes args s ++ Jvm.arrayLocs frame_1_arrays args s ++ Jvm.staticLocs frame_1_statics s) 32 4288 → Post tb e args s (.returned v) u) :
    ArmFor flags0 classFile x code maxLocals ret World_1 tables_1 room_1 Calls_1 rest_1 Pre_1 Post := by
  intro l hfl _ _ p e ha hc hk s m args below hf hA hF happ hP
  obtain ⟨hcalls, hrest, hpre⟩ := hP
  obtain ⟨-, -, -, hnamed, -, -, -, hat⟩ := (Spec.applies_iff hf).mp happ
  obtain ⟨hg, hn⟩ := and_e (Cond.before_iff.mp (show (Jvm.Cond.and given_1 narrow_1).before args s = true from hpre))
  obtain ⟨hcnt, g1⟩ := and_e hg
  obtain ⟨a0, g2⟩ := and_e g1
  obtain ⟨a1, g3⟩ := and_e g2
  obtain ⟨a2, g4⟩ := and_e g3
  obtain ⟨a3, g5⟩ := and_e g4
  have a4 := g5
  obtain ⟨w0, w1, w2, w3, w4, rfl⟩ : ∃ w0 w1 w2 w3 w4 : Value, args = #[w0, w1, w2, w3, w4] := by
    have hs : args.size = 5 := by simpa [Cond.value, given_1] using hcnt
    obtain ⟨L⟩ := args
    match L, hs with
    | [w0, w1, w2, w3, w4], _ => exact ⟨w0, w1, w2, w3, w4, rfl⟩
  have hw := fun d (hd : d ∈ tables_1) => atoms_spec (ws := Jvm.Cond.code x code maxLocals ret :: tables_1) hat d (List.mem_cons_of_mem _ hd)
  have hfit : Fit s := fun {y c} hc i hi => by
    obtain ⟨ha, rfl⟩ := Array.getElem?_eq_some_iff.mp hc
    have q := List.all_eq_true.mp ((Array.all_eq_true_iff_forall_mem.mp hF) _ (Array.getElem_mem ha)) i (List.mem_range.mpr hi)
    simpa [Array.getElem?_eq_getElem hi] using q
  obtain ⟨hsets, hown0⟩ := atoms_of _ (rest_1_c_eq ▸ (show rest_1_c.before _ s = true from hrest))
  obtain ⟨i0, ei0⟩ := is_v a0
  obtain rfl : w0 = (.int i0) := Option.some.inj ei0
  obtain ⟨i1, ei1⟩ := is_v a1
  obtain rfl : w1 = (.int i1) := Option.some.inj ei1
  obtain ⟨i2, ei2⟩ := is_v a2
  obtain rfl : w2 = (.int i2) := Option.some.inj ei2
  obtain ⟨i3, ei3⟩ := is_v a3
  obtain rfl : w3 = (.int i3) := Option.some.inj ei3
  obtain ⟨i4, ei4⟩ := is_v a4
  obtain rfl : w4 = (.int i4) := Option.some.inj ei4
  have n3 := not_v (Cond.before_iff.mp (hsets _ (List.mem_of_getElem? (i := 2) rfl)))
  obtain ⟨cz, ecz⟩ := is_v (Cond.before_iff.mp (hsets _ (List.mem_of_getElem? (i := 1) rfl)))
  have S8 : Sta s s.heap "java/lang/String" "COMPACT_STRINGS" "Z" (.int cz) := Sta.start ecz (Or.inl (hsets _ (List.mem_of_getElem? (i := 0) rfl)))
  have hcz : ¬ (cz = (0 : Int32)) := gotF (Cond.eq_ints ecz (Term.int_eval (0))) n3
  obtain ⟨fm, efm, rfm⟩ := isR_v (Cond.before_iff.mp (hsets _ (List.mem_of_getElem? (i := 8) rfl)))
  have SF : Sta s s.heap "jdk/internal/util/Preconditions" "SIOOBE_FORMATTER" "Ljava/util/function/BiFunction;" fm := Sta.start efm (Or.inl (hsets _ (List.mem_of_getElem? (i := 7) rfl)))
  let G : Own.Gl := (l, s, #[(.int i0), (.int i1), (.int i2), (.int i3), (.int i4)], consts_1, s.heap.size)
  have hw' : ∀ d ∈ tables_1, d.before G.a0 G.Z = true := hw
  have hEL : EW G.Z G.a0 G.EL := elW hw'
  have hcw : Jvm.Lit.compactW.before G.a0 G.Z = true := hsets _ (List.mem_of_getElem? (i := 2) rfl)
  have hCH : CHv G.Z G.EL G.Z.vm G.Z.heap := CHv.start hEL (fun q hq => hcalls.1 q hq) hcw (tw hw' 23 rfl) (tw hw' 6 rfl)
  have q0 := hn
  obtain ⟨m0, q1⟩ := and_e q0
  obtain ⟨m1, q2⟩ := and_e q1
  obtain ⟨m2, q3⟩ := and_e q2
  obtain ⟨m3, q4⟩ := and_e q3
  obtain ⟨m4, q5⟩ := and_e q4
  obtain ⟨m5, q6⟩ := and_e q5
  obtain ⟨m6, q7⟩ := and_e q6
  obtain ⟨m7, q8⟩ := and_e q7
  obtain ⟨m8, q9⟩ := and_e q8
  obtain ⟨m9, q10⟩ := and_e q9
  obtain ⟨m10, q11⟩ := and_e q10
  obtain ⟨m11, q12⟩ := and_e q11
  obtain ⟨m12, q13⟩ := and_e q12
  obtain ⟨m13, q14⟩ := and_e q13
  obtain ⟨m14, q15⟩ := and_e q14
  obtain ⟨m15, q16⟩ := and_e q15
  obtain ⟨m16, q17⟩ := and_e q16
  obtain ⟨m17, q18⟩ := and_e q17
  obtain ⟨m18, q19⟩ := and_e q18
  obtain ⟨m19, q20⟩ := and_e q19
  obtain ⟨m20, q21⟩ := and_e q20
  obtain ⟨m21, q22⟩ := and_e q21
  obtain ⟨m22, q23⟩ := and_e q22
  obtain ⟨m23, q24⟩ := and_e q23
  obtain ⟨m24, q25⟩ := and_e q24
  obtain ⟨m25, q26⟩ := and_e q25
  obtain ⟨m26, q27⟩ := and_e q26
  obtain ⟨m27, q28⟩ := and_e q27
  obtain ⟨m28, q29⟩ := and_e q28
  obtain ⟨m29, q30⟩ := and_e q29
  obtain ⟨m30, q31⟩ := and_e q30
  obtain ⟨m31, q32⟩ := and_e q31
  have m32 := q32
  obtain ⟨rv, evV⟩ := exa_v m1
  have XV := Exa.start evV m1
  have TV := Sta.start evV (Or.inl (hw _ (List.mem_of_getElem? (i := 68) rfl)))
  obtain ⟨r0, ev0⟩ := exa_v m3
  have TE0 := Sta.start ev0 (Or.inr ⟨hw _ (List.mem_of_getElem? (i := 51) rfl), hw _ (List.mem_of_getElem? (i := 65) rfl)⟩)
  obtain ⟨l0, el0⟩ := exa_v m9
  have XL0 := Exa.start el0 m9
  have LE0 := Fld.start (by have e := el0; rwa [fld_at ev0] at e)
  have CL0 := Own.fldOf el0 m10
  obtain ⟨b0, eb0⟩ := arr_v m11
  have FV0 := Fld.start (by have e := eb0; rwa [fld_at el0] at e)
  obtain ⟨k0, AB0⟩ := Own.arvStart hfit (dv := .int 0) (vs := [(.int (104 : Int32)), (.int (111 : Int32)), (.int (108 : Int32)), (.int (100 : Int32))]) eb0 m11 m12 (by decide) (by decide) (by
    intro i hi
    match i, hi with
    | 0, _ => exact Own.eqI m21
    | 1, _ => exact Own.eqI m24
    | 2, _ => exact Own.eqI m25
    | 3, _ => exact Own.eqI m26
    | (k + 4), hk => exact absurd hk (by simp <;> omega))
  have SE0 : Own.Str s s.heap l0 [(104 : Int32), (111 : Int32), (108 : Int32), (100 : Int32)] := ⟨XL0, CL0, by decide, by decide, b0, k0, FV0, AB0⟩
  obtain ⟨r1, ev1⟩ := exa_v m5
  have TE1 := Sta.start ev1 (Or.inr ⟨hw _ (List.mem_of_getElem? (i := 51) rfl), hw _ (List.mem_of_getElem? (i := 66) rfl)⟩)
  obtain ⟨l1, el1⟩ := exa_v m13
  have XL1 := Exa.start el1 m13
  have LE1 := Fld.start (by have e := el1; rwa [fld_at ev1] at e)
  have CL1 := Own.fldOf el1 m14
  obtain ⟨b1, eb1⟩ := arr_v m15
  have FV1 := Fld.start (by have e := eb1; rwa [fld_at el1] at e)
  obtain ⟨k1, AB1⟩ := Own.arvStart hfit (dv := .int 0) (vs := [(.int (107 : Int32)), (.int (101 : Int32)), (.int (101 : Int32)), (.int (112 : Int32))]) eb1 m15 m16 (by decide) (by decide) (by
    intro i hi
    match i, hi with
    | 0, _ => exact Own.eqI m22
    | 1, _ => exact Own.eqI m30
    | 2, _ => exact Own.eqI m31
    | 3, _ => exact Own.eqI m32
    | (k + 4), hk => exact absurd hk (by simp <;> omega))
  have SE1 : Own.Str s s.heap l1 [(107 : Int32), (101 : Int32), (101 : Int32), (112 : Int32)] := ⟨XL1, CL1, by decide, by decide, b1, k1, FV1, AB1⟩
  obtain ⟨r2, ev2⟩ := exa_v m7
  have TE2 := Sta.start ev2 (Or.inr ⟨hw _ (List.mem_of_getElem? (i := 51) rfl), hw _ (List.mem_of_getElem? (i := 67) rfl)⟩)
  obtain ⟨l2, el2⟩ := exa_v m17
  have XL2 := Exa.start el2 m17
  have LE2 := Fld.start (by have e := el2; rwa [fld_at ev2] at e)
  have CL2 := Own.fldOf el2 m18
  obtain ⟨b2, eb2⟩ := arr_v m19
  have FV2 := Fld.start (by have e := eb2; rwa [fld_at el2] at e)
  obtain ⟨k2, AB2⟩ := Own.arvStart hfit (dv := .int 0) (vs := [(.int (110 : Int32)), (.int (111 : Int32)), (.int (110 : Int32)), (.int (101 : Int32))]) eb2 m19 m20 (by decide) (by decide) (by
    intro i hi
    match i, hi with
    | 0, _ => exact Own.eqI m23
    | 1, _ => exact Own.eqI m27
    | 2, _ => exact Own.eqI m28
    | 3, _ => exact Own.eqI m29
    | (k + 4), hk => exact absurd hk (by simp <;> omega))
  have SE2 : Own.Str s s.heap l2 [(110 : Int32), (111 : Int32), (110 : Int32), (101 : Int32)] := ⟨XL2, CL2, by decide, by decide, b2, k2, FV2, AB2⟩
  obtain ⟨kV, AV⟩ := Own.arvStart hfit (dv := .null) (vs := [(.ref r0), (.ref r1), (.ref r2)]) evV m0 m2 (by decide) rfl (by
    intro i hi
    match i, hi with
    | 0, _ => exact Own.eqRef m4 ev0
    | 1, _ => exact Own.eqRef m6 ev1
    | 2, _ => exact Own.eqRef m8 ev2
    | (k + 3), hk => exact absurd hk (by simp <;> omega))
  obtain ⟨n, o, h1, h2, h3, v, L, rfl, ⟨hv, N, -⟩, -, hq⟩ := con_law (G := G) hw' hEL (by show (Own.ST, 7) ∈ consts_1; decide) S8 hcz rfl TV AV XV TE0 LE0 SE0 TE1 LE1 SE1 TE2 LE2 SE2 i0 i1 i2 i3 i4 (Old.start s) p e ha hc hk s m _ below hf ((Spec.applies_iff_loose hf).mp happ).1 ⟨rfl, State.Warmed39.refl s, rfl, hCH, fun _ q => nomatch q⟩ trivial
  subst hv
  exact ⟨n, _, h1, h2, h3, hpost _ _ _ _ _ _ ⟨Cond.after_iff.mpr rfl, Cond.after_iff.mpr (eq_i res_at (Term.int_eval (1)) rfl), trivial⟩ ⟨hq.1, hq.2.1, hq.2.2.1, (hq.2.2.2.sift fun y hy => Or.inr (N y hy)).mono (by decide) (by decide)⟩⟩
theorem main_1_1 : Claimed_1_1 := comes_1 fun _ _ _ _ _ _ h hF => ⟨h.1, hF⟩
theorem main_1_2 : Claimed_1_2 := comes_1 fun _ _ _ _ _ _ h hF => ⟨h.2.1, hF⟩
end Jvm.Pilot.@@N@@
namespace Jvm.Pilot.@@N@@
open Jvm Jvm.ClassFile Sem Op Lib Jvm.Free Jvm.Stand Jvm.Pilot.@@N@@.Jvm.D
/-! MADE BY PROGRAM (witnessworld.py) out of the Statement's table words and the real class files: 22 classes; the members and pool entries that the words name. The judged class is class 1, her method 3. -/
namespace start1
open Jvm.ClassFile
def u (s : String) : CpInfo := .utf8 (stringToUtf16 s)
/-- a pool by its gaps: so many unusable entries, then the entry; so many at the end -/
def gap : Nat → List CpInfo → List CpInfo
  | 0, r => r
  | n + 1, r => .unusable :: gap n r
def poolList (es : List (Nat × CpInfo)) (last : Nat) : List CpInfo := es.foldr (fun e r => gap e.1 (e.2 :: r)) (gap last [])
def pool (es : List (Nat × CpInfo)) (last : Nat) : Array CpInfo := ⟨poolList es last⟩
def fileOf (pool : Array CpInfo) (this : Nat) (attrs : Array Attribute := #[]) (ms : Array MethodInfo := #[]) (fl : Nat := 33) (sup : Nat := 0) (ifs : Array Nat := #[]) (fds : Array FieldInfo := #[]) : ClassFile where
  minorVersion := 0
  majorVersion := 65
  constantPool := pool
  accessFlags := fl
  thisClass := this
  superClass := sup
  interfaces := ifs
  fields := fds
  methods := ms
  attributes := attrs
def plain (name : String) (sup : Option ClassId) : Class where
  name := name
  kind := .ordinary
  loader := none
  accessFlags := 33
  super := sup
  interfaces := #[]
  cf := none
  fields := #[]
  methods := #[]
  instanceTypes := #[]
  staticTypes := #[]
  resolved := #[]
  callSites := []
  init := .initialized
  statics := none
  mirror := none

def pool0 : Array CpInfo := pool [(5, u "<init>"), (0, u "()V"), (1, .class_ 10), (1, u "java/lang/Object"), (85, u "clone"), (0, u "()Ljava/lang/Object;")] 26

def k0c0 : Code := { maxStack := 0, maxLocals := 1, code := object_method_1_code, exceptionTable := #[], attributes := #[] }
def k0m0 : Method := { name := "<init>", desc := "()V", sig := { parameters := [], returnType := none }, accessFlags := 1, code := some k0c0 }
def k0m1 : Method := { name := "clone", desc := "()Ljava/lang/Object;", sig := { parameters := [], returnType := some (.object "java/lang/Object") }, accessFlags := 260, code := none }
/-- java/lang/Object -/
def k0 : Class := { plain "java/lang/Object" none with
  accessFlags := 33
  interfaces := #[]
  cf := some (fileOf pool0 8 #[] #[{ accessFlags := 1, nameIndex := 5, descriptorIndex := 6, attributes := #[] }, { accessFlags := 260, nameIndex := 96, descriptorIndex := 97, attributes := #[] }] 33 0 #[] #[])
  fields := #[]
  methods := #[k0m0, k0m1]
  instanceTypes := #[]
  staticTypes := #[]
  resolved := Array.replicate 124 none
  statics := none }

def pool1 : Array CpInfo := pool [(2, .class_ 4), (1, u "java/lang/Object"), (0, u "<init>"), (0, u "()V"), (0, .class_ 8), (0, u "java/lang/String"), (0, .methodref 7 10), (0, .nameAndType 5 11), (0, u "([C)V"), (0, .methodref 13 14), (0, .class_ 15), (0, .nameAndType 16 17), (0, u "com/example/couplet/couplet/core/LocalOverrideNamedPinLaw"), (0, u "template"), (0, u "(I)[C"), (0, .methodref 13 19), (0, .nameAndType 20 21), (0, u "build"), (0, u "([CI)Ljava/lang/String;"), (0, .string 23), (0, u "hold"), (0, .methodref 7 25), (0, .nameAndType 26 27), (0, u "equals"), (0, u "(Ljava/lang/Object;)Z"), (0, .fieldref 29 30), (0, .class_ 31), (0, .nameAndType 32 33), (0, u "com/example/couplet/couplet/core/LocalOverride"), (0, u "HOLD"), (0, u "Lcom/example/couplet/couplet/core/LocalOverride;"), (0, .string 35), (0, u "keep"), (0, .fieldref 29 37), (0, .nameAndType 38 33), (0, u "KEEP"), (0, .string 40), (0, u "none"), (0, .fieldref 29 42), (0, .nameAndType 43 33), (0, u "NONE"), (0, .methodref 29 45), (0, .nameAndType 46 47), (0, u "named"), (0, u "(Ljava/lang/String;)Lcom/example/couplet/couplet/core/LocalOverride;"), (3, u "law"), (0, u "(IIIII)Z")] 4

def k1m0 : Method := { name := "<init>", desc := "()V", sig := { parameters := [], returnType := none }, accessFlags := 1, code := none }
def k1c1 : Code := { maxStack := 4, maxLocals := 1, code := method_2_code, exceptionTable := #[], attributes := #[] }
def k1m1 : Method := { name := "template", desc := "(I)[C", sig := { parameters := [.int], returnType := some (.array .char) }, accessFlags := 10, code := some k1c1 }
def k1c2 : Code := { maxStack := 7, maxLocals := 2, code := method_3_code, exceptionTable := #[], attributes := #[] }
def k1m2 : Method := { name := "build", desc := "([CI)Ljava/lang/String;", sig := { parameters := [(.array .char), .int], returnType := some (.object "java/lang/String") }, accessFlags := 10, code := some k1c2 }
def k1c3 : Code := { maxStack := 4, maxLocals := 9, code := code, exceptionTable := #[], attributes := #[] }
def k1m3 : Method := { name := "law", desc := "(IIIII)Z", sig := { parameters := [.int, .int, .int, .int, .int], returnType := some .boolean }, accessFlags := 9, code := some k1c3 }
/-- com/example/couplet/couplet/core/LocalOverrideNamedPinLaw -/
def k1 : Class := { plain "com/example/couplet/couplet/core/LocalOverrideNamedPinLaw" (some 0) with
  accessFlags := 49
  interfaces := #[]
  cf := some (fileOf pool1 13 #[] #[{ accessFlags := 1, nameIndex := 5, descriptorIndex := 6, attributes := #[] }, { accessFlags := 10, nameIndex := 16, descriptorIndex := 17, attributes := #[] }, { accessFlags := 10, nameIndex := 20, descriptorIndex := 21, attributes := #[] }, { accessFlags := 9, nameIndex := 51, descriptorIndex := 52, attributes := #[] }] 49 2 #[] #[])
  fields := #[]
  methods := #[k1m0, k1m1, k1m2, k1m3]
  instanceTypes := #[]
  staticTypes := #[]
  resolved := Array.replicate 57 none
  statics := none }

def pool2 : Array CpInfo := pool [(1, .class_ 2), (0, u "java/io/Serializable"), (0, .class_ 4), (0, u "java/lang/Object")] 2

/-- java/io/Serializable -/
def k2 : Class := { plain "java/io/Serializable" (some 0) with
  accessFlags := 1537
  interfaces := #[]
  cf := some (fileOf pool2 1 #[] #[] 1537 3 #[] #[])
  fields := #[]
  methods := #[]
  instanceTypes := #[]
  staticTypes := #[]
  resolved := Array.replicate 7 none
  statics := none }

def pool3 : Array CpInfo := pool [(1, .class_ 2), (0, u "java/lang/Comparable"), (0, .class_ 4), (0, u "java/lang/Object")] 7

/-- java/lang/Comparable -/
def k3 : Class := { plain "java/lang/Comparable" (some 0) with
  accessFlags := 1537
  interfaces := #[]
  cf := some (fileOf pool3 1 #[] #[] 1537 3 #[] #[])
  fields := #[]
  methods := #[]
  instanceTypes := #[]
  staticTypes := #[]
  resolved := Array.replicate 12 none
  statics := none }

def pool4 : Array CpInfo := pool [(2, .class_ 4), (1, u "java/lang/CharSequence"), (42, .class_ 48), (0, u "java/lang/CharSequence$1CodePointIterator"), (10, .class_ 60), (0, u "java/lang/CharSequence$1CharIterator"), (5, .class_ 67), (0, u "java/lang/Object")] 63

/-- java/lang/CharSequence -/
def k4 : Class := { plain "java/lang/CharSequence" (some 0) with
  accessFlags := 1537
  interfaces := #[]
  cf := some (fileOf pool4 2 #[.nestMembers #[47, 59]] #[] 1537 66 #[] #[])
  fields := #[]
  methods := #[]
  instanceTypes := #[]
  staticTypes := #[]
  resolved := Array.replicate 131 none
  statics := none }

def pool5 : Array CpInfo := pool [(1, .class_ 2), (0, u "java/lang/constant/Constable"), (0, .class_ 4), (0, u "java/lang/Object")] 6

/-- java/lang/constant/Constable -/
def k5 : Class := { plain "java/lang/constant/Constable" (some 0) with
  accessFlags := 1537
  interfaces := #[]
  cf := some (fileOf pool5 1 #[] #[] 1537 3 #[] #[])
  fields := #[]
  methods := #[]
  instanceTypes := #[]
  staticTypes := #[]
  resolved := Array.replicate 11 none
  statics := none }

def pool6 : Array CpInfo := pool [(1, .class_ 2), (0, u "java/lang/constant/ConstantDesc"), (0, .class_ 4), (0, u "java/lang/Object")] 32

/-- java/lang/constant/ConstantDesc -/
def k6 : Class := { plain "java/lang/constant/ConstantDesc" (some 0) with
  accessFlags := 1537
  interfaces := #[]
  cf := some (fileOf pool6 1 #[] #[] 1537 3 #[] #[])
  fields := #[]
  methods := #[]
  instanceTypes := #[]
  staticTypes := #[]
  resolved := Array.replicate 37 none
  statics := none }

def pool7 : Array CpInfo := pool [(1, .methodref 2 3), (0, .class_ 4), (0, .nameAndType 5 6), (0, u "java/lang/Object"), (0, u "<init>"), (0, u "()V"), (0, .string 8), (0, u ""), (0, .fieldref 10 11), (0, .class_ 12), (0, .nameAndType 13 14), (0, u "java/lang/String"), (0, u "value"), (0, u "[B"), (0, .fieldref 10 16), (0, .nameAndType 17 18), (0, u "coder"), (0, u "B"), (2, u "hash"), (0, u "I"), (2, u "hashIsZero"), (0, u "Z"), (0, .methodref 10 28), (0, .nameAndType 5 29), (0, u "([CIILjava/lang/Void;)V"), (8, .fieldref 10 39), (0, .nameAndType 40 26), (0, u "COMPACT_STRINGS"), (1, .class_ 44), (1, u "java/lang/StringUTF16"), (0, u "compress"), (1, .methodref 42 48), (0, .nameAndType 49 50), (0, u "coderFromArrayLen"), (0, u "([BI)B"), (56, .class_ 109), (1, u "java/lang/StringLatin1"), (67, .methodref 42 178), (0, .nameAndType 45 179), (0, u "([CII)[B"), (361, .methodref 107 542), (0, .nameAndType 543 544), (0, u "equals"), (0, u "([B[B)Z"), (28, u "(Ljava/lang/Object;)Z"), (1, .class_ 576), (0, u "java/lang/CharSequence"), (22, u "CASE_INSENSITIVE_ORDER"), (0, u "Ljava/util/Comparator;"), (409, u "([C)V"), (90, u "serialPersistentFields"), (0, u "[Ljava/io/ObjectStreamField;"), (0, .class_ 1104), (0, u "java/lang/String$CaseInsensitiveComparator"), (1, .class_ 1107), (0, u "java/io/Serializable"), (0, .class_ 1109), (0, u "java/lang/Comparable"), (0, .class_ 1111), (0, u "java/lang/constant/Constable"), (0, .class_ 1113), (0, u "java/lang/constant/ConstantDesc"), (2, u "serialVersionUID"), (0, u "J"), (3, u "REPL"), (0, u "C"), (2, u "LATIN1"), (1, u "UTF16")] 323

def k7m0 : Method := { name := "<init>", desc := "()V", sig := { parameters := [], returnType := none }, accessFlags := 1, code := none }
def k7c1 : Code := { maxStack := 5, maxLocals := 2, code := jdk_42_method_3_code, exceptionTable := #[], attributes := #[] }
def k7m1 : Method := { name := "<init>", desc := "([C)V", sig := { parameters := [(.array .char)], returnType := none }, accessFlags := 1, code := some k7c1 }
def k7c2 : Code := { maxStack := 2, maxLocals := 3, code := jdk_42_method_66_code, exceptionTable := #[], attributes := #[] }
def k7m2 : Method := { name := "equals", desc := "(Ljava/lang/Object;)Z", sig := { parameters := [(.object "java/lang/Object")], returnType := some .boolean }, accessFlags := 1, code := some k7c2 }
def k7c3 : Code := { maxStack := 4, maxLocals := 6, code := jdk_42_method_149_code, exceptionTable := #[], attributes := #[] }
def k7m3 : Method := { name := "<init>", desc := "([CIILjava/lang/Void;)V", sig := { parameters := [(.array .char), .int, .int, (.object "java/lang/Void")], returnType := none }, accessFlags := 2, code := some k7c3 }
/-- java/lang/String -/
def k7 : Class := { plain "java/lang/String" (some 0) with
  accessFlags := 49
  interfaces := #[2, 3, 4, 5, 6]
  cf := some (fileOf pool7 10 #[.nestMembers #[1103]] #[{ accessFlags := 1, nameIndex := 5, descriptorIndex := 6, attributes := #[] }, { accessFlags := 1, nameIndex := 5, descriptorIndex := 1010, attributes := #[] }, { accessFlags := 1, nameIndex := 543, descriptorIndex := 573, attributes := #[] }, { accessFlags := 2, nameIndex := 5, descriptorIndex := 29, attributes := #[] }] 49 2 #[1106, 1108, 575, 1110, 1112] #[{ accessFlags := 18, nameIndex := 13, descriptorIndex := 14, attributes := #[] }, { accessFlags := 18, nameIndex := 17, descriptorIndex := 18, attributes := #[] }, { accessFlags := 2, nameIndex := 21, descriptorIndex := 22, attributes := #[] }, { accessFlags := 2, nameIndex := 25, descriptorIndex := 26, attributes := #[] }, { accessFlags := 26, nameIndex := 1116, descriptorIndex := 1117, attributes := #[] }, { accessFlags := 24, nameIndex := 40, descriptorIndex := 26, attributes := #[] }, { accessFlags := 26, nameIndex := 1101, descriptorIndex := 1102, attributes := #[] }, { accessFlags := 26, nameIndex := 1121, descriptorIndex := 1122, attributes := #[] }, { accessFlags := 25, nameIndex := 599, descriptorIndex := 600, attributes := #[] }, { accessFlags := 24, nameIndex := 1125, descriptorIndex := 18, attributes := #[] }, { accessFlags := 24, nameIndex := 1127, descriptorIndex := 18, attributes := #[] }])
  fields := #[{ name := "value", type := (.array .byte), accessFlags := 18, slot := 0, constantValue := 0 }, { name := "coder", type := .byte, accessFlags := 18, slot := 1, constantValue := 0 }, { name := "hash", type := .int, accessFlags := 2, slot := 2, constantValue := 0 }, { name := "hashIsZero", type := .boolean, accessFlags := 2, slot := 3, constantValue := 0 }, { name := "serialVersionUID", type := .long, accessFlags := 26, slot := 0, constantValue := 0 }, { name := "COMPACT_STRINGS", type := .boolean, accessFlags := 24, slot := 1, constantValue := 0 }, { name := "serialPersistentFields", type := (.array (.object "java/io/ObjectStreamField")), accessFlags := 26, slot := 2, constantValue := 0 }, { name := "REPL", type := .char, accessFlags := 26, slot := 3, constantValue := 0 }, { name := "CASE_INSENSITIVE_ORDER", type := (.object "java/util/Comparator"), accessFlags := 25, slot := 4, constantValue := 0 }, { name := "LATIN1", type := .byte, accessFlags := 24, slot := 5, constantValue := 0 }, { name := "UTF16", type := .byte, accessFlags := 24, slot := 6, constantValue := 0 }]
  methods := #[k7m0, k7m1, k7m2, k7m3]
  instanceTypes := #[(.array .byte), .byte, .int, .boolean]
  staticTypes := #[.long, .boolean, (.array (.object "java/io/ObjectStreamField")), .char, (.object "java/util/Comparator"), .byte, .byte]
  resolved := Array.replicate 1451 none
  statics := some 0 }

def pool8 : Array CpInfo := pool [(6, .class_ 8), (1, u "java/lang/Object"), (0, u "<init>"), (0, u "()V"), (1, .class_ 14), (1, u "java/lang/StringUTF16"), (31, u "$assertionsDisabled"), (0, u "Z"), (13, u "HI_BYTE_SHIFT"), (0, u "I"), (2, u "LO_BYTE_SHIFT"), (49, .methodref 12 116), (0, .nameAndType 117 118), (0, u "compress"), (0, u "([CI[BII)I"), (3, u "([CII)[B"), (138, u "coderFromArrayLen"), (0, u "([BI)B"), (106, .class_ 371), (1, u "java/lang/StringUTF16$LinesSpliterator"), (58, u "MAX_LENGTH"), (196, .class_ 628), (0, u "java/lang/StringUTF16$CodePointsSpliterator"), (0, .class_ 630), (0, u "java/lang/StringUTF16$CharsSpliterator")] 4

def k8m0 : Method := { name := "<init>", desc := "()V", sig := { parameters := [], returnType := none }, accessFlags := 0, code := none }
def k8c1 : Code := { maxStack := 2, maxLocals := 2, code := jdk_52_method_15_code, exceptionTable := #[], attributes := #[] }
def k8m1 : Method := { name := "coderFromArrayLen", desc := "([BI)B", sig := { parameters := [(.array .byte), .int], returnType := some .byte }, accessFlags := 8, code := some k8c1 }
def k8c2 : Code := { maxStack := 5, maxLocals := 6, code := jdk_52_method_16_code, exceptionTable := #[], attributes := #[] }
def k8m2 : Method := { name := "compress", desc := "([CII)[B", sig := { parameters := [(.array .char), .int, .int], returnType := some (.array .byte) }, accessFlags := 9, code := some k8c2 }
def k8c3 : Code := { maxStack := 3, maxLocals := 7, code := jdk_52_method_21_code, exceptionTable := #[], attributes := #[] }
def k8m3 : Method := { name := "compress", desc := "([CI[BII)I", sig := { parameters := [(.array .char), .int, (.array .byte), .int, .int], returnType := some .int }, accessFlags := 9, code := some k8c3 }
/-- java/lang/StringUTF16 -/
def k8 : Class := { plain "java/lang/StringUTF16" (some 0) with
  accessFlags := 48
  interfaces := #[]
  cf := some (fileOf pool8 12 #[.nestMembers #[627, 629, 369]] #[{ accessFlags := 0, nameIndex := 9, descriptorIndex := 10, attributes := #[] }, { accessFlags := 8, nameIndex := 261, descriptorIndex := 262, attributes := #[] }, { accessFlags := 9, nameIndex := 117, descriptorIndex := 122, attributes := #[] }, { accessFlags := 9, nameIndex := 117, descriptorIndex := 118, attributes := #[] }] 48 6 #[] #[{ accessFlags := 26, nameIndex := 61, descriptorIndex := 62, attributes := #[] }, { accessFlags := 26, nameIndex := 65, descriptorIndex := 62, attributes := #[] }, { accessFlags := 24, nameIndex := 430, descriptorIndex := 62, attributes := #[] }, { accessFlags := 4120, nameIndex := 46, descriptorIndex := 47, attributes := #[] }])
  fields := #[{ name := "HI_BYTE_SHIFT", type := .int, accessFlags := 26, slot := 0, constantValue := 0 }, { name := "LO_BYTE_SHIFT", type := .int, accessFlags := 26, slot := 1, constantValue := 0 }, { name := "MAX_LENGTH", type := .int, accessFlags := 24, slot := 2, constantValue := 0 }, { name := "$assertionsDisabled", type := .boolean, accessFlags := 4120, slot := 3, constantValue := 0 }]
  methods := #[k8m0, k8m1, k8m2, k8m3]
  instanceTypes := #[]
  staticTypes := #[.int, .int, .int, .boolean]
  resolved := Array.replicate 635 none
  statics := none }

def pool9 : Array CpInfo := pool [(4, .class_ 6), (1, u "java/lang/Object"), (0, u "<init>"), (0, u "()V"), (5, .class_ 16), (1, u "java/lang/StringLatin1"), (104, u "$assertionsDisabled"), (0, u "Z"), (98, .class_ 223), (1, u "java/lang/StringLatin1$LinesSpliterator"), (57, u "equals"), (0, u "([B[B)Z"), (107, .class_ 391), (0, u "java/lang/StringLatin1$CharsSpliterator")] 3

def k9m0 : Method := { name := "<init>", desc := "()V", sig := { parameters := [], returnType := none }, accessFlags := 0, code := none }
def k9c1 : Code := { maxStack := 3, maxLocals := 3, code := jdk_43_method_13_code, exceptionTable := #[], attributes := #[] }
def k9m1 : Method := { name := "equals", desc := "([B[B)Z", sig := { parameters := [(.array .byte), (.array .byte)], returnType := some .boolean }, accessFlags := 9, code := some k9c1 }
/-- java/lang/StringLatin1 -/
def k9 : Class := { plain "java/lang/StringLatin1" (some 0) with
  accessFlags := 48
  interfaces := #[]
  cf := some (fileOf pool9 14 #[.nestMembers #[390, 221]] #[{ accessFlags := 0, nameIndex := 7, descriptorIndex := 8, attributes := #[] }, { accessFlags := 9, nameIndex := 281, descriptorIndex := 282, attributes := #[] }] 48 4 #[] #[{ accessFlags := 4120, nameIndex := 121, descriptorIndex := 122, attributes := #[] }])
  fields := #[{ name := "$assertionsDisabled", type := .boolean, accessFlags := 4120, slot := 0, constantValue := 0 }]
  methods := #[k9m0, k9m1]
  instanceTypes := #[]
  staticTypes := #[.boolean]
  resolved := Array.replicate 395 none
  statics := none }

def pool10 : Array CpInfo := pool [(2, .class_ 4), (1, u "java/lang/Enum"), (0, u "name"), (0, u "Ljava/lang/String;"), (2, u "ordinal"), (0, u "I"), (1, .class_ 14), (1, u "java/lang/Object"), (4, u "hash"), (86, .class_ 108), (1, u "java/lang/Enum$EnumDesc"), (2, .class_ 112), (0, u "java/lang/constant/Constable"), (0, .class_ 114), (0, u "java/lang/Comparable"), (0, .class_ 116), (0, u "java/io/Serializable")] 87

/-- java/lang/Enum -/
def k10 : Class := { plain "java/lang/Enum" (some 0) with
  accessFlags := 1057
  interfaces := #[5, 3, 2]
  cf := some (fileOf pool10 2 #[.nestMembers #[106]] #[] 1057 12 #[111, 113, 115] #[{ accessFlags := 18, nameIndex := 5, descriptorIndex := 6, attributes := #[] }, { accessFlags := 18, nameIndex := 9, descriptorIndex := 10, attributes := #[] }, { accessFlags := 2, nameIndex := 19, descriptorIndex := 10, attributes := #[] }])
  fields := #[{ name := "name", type := (.object "java/lang/String"), accessFlags := 18, slot := 0, constantValue := 0 }, { name := "ordinal", type := .int, accessFlags := 18, slot := 1, constantValue := 0 }, { name := "hash", type := .int, accessFlags := 2, slot := 2, constantValue := 0 }]
  methods := #[]
  instanceTypes := #[(.object "java/lang/String"), .int, .int]
  staticTypes := #[]
  resolved := Array.replicate 204 none
  statics := none }

def pool11 : Array CpInfo := pool [(1, .class_ 2), (0, u "com/example/couplet/couplet/core/LocalOverride"), (2, u "HOLD"), (0, u "Lcom/example/couplet/couplet/core/LocalOverride;"), (2, u "KEEP"), (2, u "NONE"), (0, .fieldref 1 14), (0, .nameAndType 15 16), (0, u "$VALUES"), (0, u "[Lcom/example/couplet/couplet/core/LocalOverride;"), (0, .methodref 18 19), (0, .class_ 16), (0, .nameAndType 20 21), (0, u "clone"), (0, u "()Ljava/lang/Object;"), (1, .class_ 25), (1, u "java/lang/Enum"), (6, .fieldref 1 33), (0, .nameAndType 34 35), (0, u "label"), (0, u "Ljava/lang/String;"), (0, .methodref 1 37), (0, .nameAndType 38 39), (0, u "values"), (0, u "()[Lcom/example/couplet/couplet/core/LocalOverride;"), (0, .methodref 41 42), (0, .class_ 43), (0, .nameAndType 44 45), (0, u "java/lang/String"), (0, u "equals"), (0, u "(Ljava/lang/Object;)Z"), (17, u "(Ljava/lang/String;)Lcom/example/couplet/couplet/core/LocalOverride;"), (3, u "named")] 7

def k11c0 : Code := { maxStack := 1, maxLocals := 0, code := prog_17_method_1_code, exceptionTable := #[], attributes := #[] }
def k11m0 : Method := { name := "values", desc := "()[Lcom/example/couplet/couplet/core/LocalOverride;", sig := { parameters := [], returnType := some (.array (.object "com/example/couplet/couplet/core/LocalOverride")) }, accessFlags := 9, code := some k11c0 }
def k11c1 : Code := { maxStack := 2, maxLocals := 5, code := prog_17_method_4_code, exceptionTable := #[], attributes := #[] }
def k11m1 : Method := { name := "named", desc := "(Ljava/lang/String;)Lcom/example/couplet/couplet/core/LocalOverride;", sig := { parameters := [(.object "java/lang/String")], returnType := some (.object "com/example/couplet/couplet/core/LocalOverride") }, accessFlags := 9, code := some k11c1 }
/-- com/example/couplet/couplet/core/LocalOverride -/
def k11 : Class := { plain "com/example/couplet/couplet/core/LocalOverride" (some 10) with
  accessFlags := 16433
  interfaces := #[]
  cf := some (fileOf pool11 1 #[] #[{ accessFlags := 9, nameIndex := 38, descriptorIndex := 39, attributes := #[] }, { accessFlags := 9, nameIndex := 67, descriptorIndex := 63, attributes := #[] }] 16433 23 #[] #[{ accessFlags := 16409, nameIndex := 5, descriptorIndex := 6, attributes := #[] }, { accessFlags := 16409, nameIndex := 9, descriptorIndex := 6, attributes := #[] }, { accessFlags := 16409, nameIndex := 12, descriptorIndex := 6, attributes := #[] }, { accessFlags := 18, nameIndex := 34, descriptorIndex := 35, attributes := #[] }, { accessFlags := 4122, nameIndex := 15, descriptorIndex := 16, attributes := #[] }])
  fields := #[{ name := "HOLD", type := (.object "com/example/couplet/couplet/core/LocalOverride"), accessFlags := 16409, slot := 0, constantValue := 0 }, { name := "KEEP", type := (.object "com/example/couplet/couplet/core/LocalOverride"), accessFlags := 16409, slot := 1, constantValue := 0 }, { name := "NONE", type := (.object "com/example/couplet/couplet/core/LocalOverride"), accessFlags := 16409, slot := 2, constantValue := 0 }, { name := "label", type := (.object "java/lang/String"), accessFlags := 18, slot := 3, constantValue := 0 }, { name := "$VALUES", type := (.array (.object "com/example/couplet/couplet/core/LocalOverride")), accessFlags := 4122, slot := 3, constantValue := 0 }]
  methods := #[k11m0, k11m1]
  instanceTypes := #[(.object "java/lang/String"), .int, .int, (.object "java/lang/String")]
  staticTypes := #[(.object "com/example/couplet/couplet/core/LocalOverride"), (.object "com/example/couplet/couplet/core/LocalOverride"), (.object "com/example/couplet/couplet/core/LocalOverride"), (.array (.object "com/example/couplet/couplet/core/LocalOverride"))]
  resolved := Array.replicate 75 none
  statics := some 1 }

def pool12 : Array CpInfo := pool [(1, .class_ 2), (0, u "java/lang/Cloneable"), (0, .class_ 4), (0, u "java/lang/Object")] 2

/-- java/lang/Cloneable -/
def k12 : Class := { plain "java/lang/Cloneable" (some 0) with
  accessFlags := 1537
  interfaces := #[]
  cf := some (fileOf pool12 1 #[] #[] 1537 3 #[] #[])
  fields := #[]
  methods := #[]
  instanceTypes := #[]
  staticTypes := #[]
  resolved := Array.replicate 7 none
  statics := none }

def pool13 : Array CpInfo := pool [(2, .class_ 4), (1, u "java/lang/Object"), (0, u "<init>"), (0, u "()V"), (17, .class_ 26), (1, u "jdk/internal/util/Preconditions"), (28, .class_ 56), (0, u "jdk/internal/util/Preconditions$4"), (57, .class_ 115), (0, u "jdk/internal/util/Preconditions$1"), (7, u "SIOOBE_FORMATTER"), (0, u "Ljava/util/function/BiFunction;"), (0, .class_ 126), (0, u "jdk/internal/util/Preconditions$2"), (3, u "AIOOBE_FORMATTER"), (0, .class_ 132), (0, u "jdk/internal/util/Preconditions$3"), (3, u "IOOBE_FORMATTER")] 57

def k13m0 : Method := { name := "<init>", desc := "()V", sig := { parameters := [], returnType := none }, accessFlags := 1, code := none }
/-- jdk/internal/util/Preconditions -/
def k13 : Class := { plain "jdk/internal/util/Preconditions" (some 0) with
  accessFlags := 33
  interfaces := #[]
  cf := some (fileOf pool13 24 #[.nestMembers #[55, 131, 125, 114]] #[{ accessFlags := 1, nameIndex := 5, descriptorIndex := 6, attributes := #[] }] 33 2 #[] #[{ accessFlags := 25, nameIndex := 123, descriptorIndex := 124, attributes := #[] }, { accessFlags := 25, nameIndex := 130, descriptorIndex := 124, attributes := #[] }, { accessFlags := 25, nameIndex := 136, descriptorIndex := 124, attributes := #[] }])
  fields := #[{ name := "SIOOBE_FORMATTER", type := (.object "java/util/function/BiFunction"), accessFlags := 25, slot := 0, constantValue := 0 }, { name := "AIOOBE_FORMATTER", type := (.object "java/util/function/BiFunction"), accessFlags := 25, slot := 1, constantValue := 0 }, { name := "IOOBE_FORMATTER", type := (.object "java/util/function/BiFunction"), accessFlags := 25, slot := 2, constantValue := 0 }]
  methods := #[k13m0]
  instanceTypes := #[]
  staticTypes := #[(.object "java/util/function/BiFunction"), (.object "java/util/function/BiFunction"), (.object "java/util/function/BiFunction")]
  resolved := Array.replicate 194 none
  statics := some 2 }

def pool14 : Array CpInfo := pool [(9, u "<init>"), (6, .class_ 18), (1, u "java/lang/Object"), (0, u "()V"), (1, .class_ 23), (1, u "jdk/internal/util/ArraysSupport"), (0, u "LOG2_ARRAY_LONG_INDEX_SCALE"), (0, u "I"), (2, u "U"), (0, u "Ljdk/internal/misc/Unsafe;"), (8, u "BIG_ENDIAN"), (0, u "Z"), (8, u "LOG2_BYTE_BIT_SIZE"), (4, u "LOG2_ARRAY_INT_INDEX_SCALE"), (54, u "JLA"), (0, u "Ljdk/internal/access/JavaLangAccess;"), (11, u "LOG2_ARRAY_BOOLEAN_INDEX_SCALE"), (9, u "LOG2_ARRAY_BYTE_INDEX_SCALE"), (5, u "LOG2_ARRAY_CHAR_INDEX_SCALE"), (5, u "LOG2_ARRAY_SHORT_INDEX_SCALE"), (18, u "LOG2_ARRAY_FLOAT_INDEX_SCALE"), (24, u "LOG2_ARRAY_DOUBLE_INDEX_SCALE"), (89, u "T_BOOLEAN"), (2, u "T_CHAR"), (1, u "T_FLOAT"), (1, u "T_DOUBLE"), (1, u "T_BYTE"), (1, u "T_SHORT"), (1, u "T_INT"), (1, u "T_LONG"), (1, u "SOFT_MAX_ARRAY_LENGTH")] 83

def k14m0 : Method := { name := "<init>", desc := "()V", sig := { parameters := [], returnType := none }, accessFlags := 2, code := none }
/-- jdk/internal/util/ArraysSupport -/
def k14 : Class := { plain "jdk/internal/util/ArraysSupport" (some 0) with
  accessFlags := 33
  interfaces := #[]
  cf := some (fileOf pool14 21 #[] #[{ accessFlags := 2, nameIndex := 9, descriptorIndex := 19, attributes := #[] }] 33 16 #[] #[{ accessFlags := 24, nameIndex := 28, descriptorIndex := 29, attributes := #[] }, { accessFlags := 26, nameIndex := 38, descriptorIndex := 39, attributes := #[] }, { accessFlags := 25, nameIndex := 121, descriptorIndex := 25, attributes := #[] }, { accessFlags := 25, nameIndex := 131, descriptorIndex := 25, attributes := #[] }, { accessFlags := 25, nameIndex := 137, descriptorIndex := 25, attributes := #[] }, { accessFlags := 25, nameIndex := 143, descriptorIndex := 25, attributes := #[] }, { accessFlags := 25, nameIndex := 53, descriptorIndex := 25, attributes := #[] }, { accessFlags := 25, nameIndex := 24, descriptorIndex := 25, attributes := #[] }, { accessFlags := 25, nameIndex := 162, descriptorIndex := 25, attributes := #[] }, { accessFlags := 25, nameIndex := 187, descriptorIndex := 25, attributes := #[] }, { accessFlags := 26, nameIndex := 48, descriptorIndex := 25, attributes := #[] }, { accessFlags := 25, nameIndex := 277, descriptorIndex := 25, attributes := #[] }, { accessFlags := 25, nameIndex := 280, descriptorIndex := 25, attributes := #[] }, { accessFlags := 25, nameIndex := 282, descriptorIndex := 25, attributes := #[] }, { accessFlags := 25, nameIndex := 284, descriptorIndex := 25, attributes := #[] }, { accessFlags := 25, nameIndex := 286, descriptorIndex := 25, attributes := #[] }, { accessFlags := 25, nameIndex := 288, descriptorIndex := 25, attributes := #[] }, { accessFlags := 25, nameIndex := 290, descriptorIndex := 25, attributes := #[] }, { accessFlags := 25, nameIndex := 292, descriptorIndex := 25, attributes := #[] }, { accessFlags := 26, nameIndex := 108, descriptorIndex := 109, attributes := #[] }, { accessFlags := 25, nameIndex := 294, descriptorIndex := 25, attributes := #[] }])
  fields := #[{ name := "U", type := (.object "jdk/internal/misc/Unsafe"), accessFlags := 24, slot := 0, constantValue := 0 }, { name := "BIG_ENDIAN", type := .boolean, accessFlags := 26, slot := 1, constantValue := 0 }, { name := "LOG2_ARRAY_BOOLEAN_INDEX_SCALE", type := .int, accessFlags := 25, slot := 2, constantValue := 0 }, { name := "LOG2_ARRAY_BYTE_INDEX_SCALE", type := .int, accessFlags := 25, slot := 3, constantValue := 0 }, { name := "LOG2_ARRAY_CHAR_INDEX_SCALE", type := .int, accessFlags := 25, slot := 4, constantValue := 0 }, { name := "LOG2_ARRAY_SHORT_INDEX_SCALE", type := .int, accessFlags := 25, slot := 5, constantValue := 0 }, { name := "LOG2_ARRAY_INT_INDEX_SCALE", type := .int, accessFlags := 25, slot := 6, constantValue := 0 }, { name := "LOG2_ARRAY_LONG_INDEX_SCALE", type := .int, accessFlags := 25, slot := 7, constantValue := 0 }, { name := "LOG2_ARRAY_FLOAT_INDEX_SCALE", type := .int, accessFlags := 25, slot := 8, constantValue := 0 }, { name := "LOG2_ARRAY_DOUBLE_INDEX_SCALE", type := .int, accessFlags := 25, slot := 9, constantValue := 0 }, { name := "LOG2_BYTE_BIT_SIZE", type := .int, accessFlags := 26, slot := 10, constantValue := 0 }, { name := "T_BOOLEAN", type := .int, accessFlags := 25, slot := 11, constantValue := 0 }, { name := "T_CHAR", type := .int, accessFlags := 25, slot := 12, constantValue := 0 }, { name := "T_FLOAT", type := .int, accessFlags := 25, slot := 13, constantValue := 0 }, { name := "T_DOUBLE", type := .int, accessFlags := 25, slot := 14, constantValue := 0 }, { name := "T_BYTE", type := .int, accessFlags := 25, slot := 15, constantValue := 0 }, { name := "T_SHORT", type := .int, accessFlags := 25, slot := 16, constantValue := 0 }, { name := "T_INT", type := .int, accessFlags := 25, slot := 17, constantValue := 0 }, { name := "T_LONG", type := .int, accessFlags := 25, slot := 18, constantValue := 0 }, { name := "JLA", type := (.object "jdk/internal/access/JavaLangAccess"), accessFlags := 26, slot := 19, constantValue := 0 }, { name := "SOFT_MAX_ARRAY_LENGTH", type := .int, accessFlags := 25, slot := 20, constantValue := 0 }]
  methods := #[k14m0]
  instanceTypes := #[]
  staticTypes := #[(.object "jdk/internal/misc/Unsafe"), .boolean, .int, .int, .int, .int, .int, .int, .int, .int, .int, .int, .int, .int, .int, .int, .int, .int, .int, (.object "jdk/internal/access/JavaLangAccess"), .int]
  resolved := Array.replicate 378 none
  statics := none }

/-- the primitive byte -/
def k15 : Class := { plain "byte" none with kind := .primitive 'B', accessFlags := 0x411 }
/-- [B -/
def k16 : Class := { plain "[B" (some 0) with kind := .array 15 .byte, interfaces := #[12, 2], accessFlags := 1041 }

/-- the primitive char -/
def k17 : Class := { plain "char" none with kind := .primitive 'C', accessFlags := 0x411 }
/-- [C -/
def k18 : Class := { plain "[C" (some 0) with kind := .array 17 .char, interfaces := #[12, 2], accessFlags := 1041 }

/-- the primitive int -/
def k19 : Class := { plain "int" none with kind := .primitive 'I', accessFlags := 0x411 }
/-- [I -/
def k20 : Class := { plain "[I" (some 0) with kind := .array 19 .int, interfaces := #[12, 2], accessFlags := 1041 }

/-- [Lcom/example/couplet/couplet/core/LocalOverride; -/
def k21 : Class := { plain "[Lcom/example/couplet/couplet/core/LocalOverride;" (some 0) with kind := .array 11 (.object "com/example/couplet/couplet/core/LocalOverride"), interfaces := #[12, 2], accessFlags := 1041 }

def heap : Heap := #[{ cls := 7, slots := #[.long 0, .int 1, .null, .int 0, .null, .int 0, .int 0], vm := .statics 7 },
  { cls := 11, slots := #[.ref 4, .ref 5, .ref 6, .ref 3], vm := .statics 11 },
  { cls := 13, slots := #[.null, .null, .null], vm := .statics 13 },
  { cls := 21, slots := #[.ref 4, .ref 5, .ref 6], vm := .none },
  { cls := 11, slots := #[.null, .int 0, .int 0, .ref 7], vm := .none },
  { cls := 11, slots := #[.null, .int 1, .int 0, .ref 8], vm := .none },
  { cls := 11, slots := #[.null, .int 2, .int 0, .ref 9], vm := .none },
  { cls := 7, slots := #[.ref 10, .int 0, .int 0, .int 0], vm := .none },
  { cls := 7, slots := #[.ref 11, .int 0, .int 0, .int 0], vm := .none },
  { cls := 7, slots := #[.ref 12, .int 0, .int 0, .int 0], vm := .none },
  { cls := 16, slots := #[.int 104, .int 111, .int 108, .int 100], vm := .none },
  { cls := 16, slots := #[.int 107, .int 101, .int 101, .int 112], vm := .none },
  { cls := 16, slots := #[.int 110, .int 111, .int 110, .int 101], vm := .none }]
def classes : Array Class := #[k0, k1, k2, k3, k4, k5, k6, k7, k8, k9, k10, k11, k12, k13, k14, k15, k16, k17, k18, k19, k20, k21]
def interned : List (Array UInt16 × Addr) := []
def slotsUsed : Nat := 53
def theMethod : MethodId := ⟨1, 3⟩
def args0 : Array Value := #[.int 5, .int 5, .int 5, .int 5, .int 5]
def aboutOver (below : List Frame) : State where
  vm := { classes := classes, interned := interned.toArray }
  heap := heap
  slotsUsed := slotsUsed
  threads := #[{ frames := .invoking theMethod args0 :: below }]
def below0 : List Frame := [.native { method := ⟨0, 0⟩, args := #[] }]
def about1 : State := aboutOver below0
def p0 : Program := .bare "" "" ""
def e0 : Env := launch0.env 0 0 0
theorem w_frames : about1.frames = Frame.invoking theMethod args0 :: below0 := rfl
set_option maxRecDepth 65536 in
theorem w_args : argsFit about1.vm theMethod args0 = true := by decide +kernel
set_option maxRecDepth 65536 in
theorem w_heap : heapFits about1 = true := by decide +kernel
set_option maxRecDepth 65536 in
theorem w_runnable : about1.curStatus? = some .runnable := by decide +kernel
set_option maxRecDepth 65536 in
theorem w_alone : about1.alone = true := by decide +kernel
set_option maxRecDepth 65536 in
theorem w_named : about1.methodNamed? x = some theMethod := by decide +kernel
set_option maxRecDepth 65536 in
theorem w_hears : about1.hears theMethod below0 = true := by decide +kernel
set_option maxRecDepth 65536 in
theorem w_ripe : about1.ripe theMethod args0 below0 = true := by decide +kernel
theorem w_running : about1.status = .running := rfl
set_option maxRecDepth 65536 in
theorem w_room : about1.hasRoom e0.platform room_1 = true :=
  launch0.hasRoom_least _ room_1 (by decide +kernel) (by decide +kernel) (by decide +kernel) (by decide +kernel) (by decide +kernel) (by decide +kernel)
theorem allAtoms_all (ts : List Jvm.Cond) (a : Array Jvm.Value) (st : Jvm.State) : (allAtoms ts).before a st = ts.all (fun c => c.before a st) := by
  induction ts with
  | nil => rfl
  | cons c t ih =>
    show (Jvm.Cond.and c (allAtoms t)).before a st = _
    rw [Jvm.Cond.before_and, ih, List.all_cons]
def words1 : List Jvm.Cond := Jvm.Cond.code x code maxLocals ret :: tables_1
/-- a 'code' word, met by the world's own term for the bytes: nothing is compared byte by byte -/
theorem code_word {y : MethodName} {bytes : ByteArray} {mx : Nat} {rt : Option FieldType} {a : Array Value} {s : State} {m : MethodId} {meth : Method} {c : Code} (h1 : s.methodNamed? y = some m) (h2 : s.vm.method? m = some meth) (h3 : meth.code = some c) (h4 : c.code = bytes)
    (h5 : (c.maxLocals == mx && c.exceptionTable.isEmpty && decide (c.maxStack ≤ mostOperands) && decide (meth.sig.returnType = rt) && !meth.locks && decide (parseMethodDescriptor y.desc = some meth.sig)) = true) : (Jvm.Cond.code y bytes mx rt).before a s = true := by
  simp only [Bool.and_eq_true, beq_iff_eq, Bool.not_eq_true', decide_eq_true_eq] at h5
  obtain ⟨⟨⟨⟨⟨g1, g2⟩, g3⟩, g4⟩, g5⟩, g6⟩ := h5
  simp [Cond.before, Cond.holds, Cond.value, h1, h2, h3, h4, g1, g2, g3, g4, g5, g6]
def isCode : Jvm.Cond → Bool
  | .code _ _ _ _ => true
  | _ => false
theorem all_split {L : List Jvm.Cond} {P : Jvm.Cond → Bool} (h1 : L.all (fun c => isCode c || P c) = true) (h2 : ∀ c ∈ L.filter isCode, P c = true) : L.all P = true := by
  refine List.all_eq_true.mpr fun c hc => ?_
  have h := List.all_eq_true.mp h1 c hc
  rcases Bool.eq_false_or_eq_true (isCode c) with hi | hi
  · exact h2 c (List.mem_filter.mpr ⟨hc, hi⟩)
  · simpa [hi] using h
set_option maxRecDepth 65536 in
theorem w_c0 : (Jvm.Cond.code x code maxLocals ret).before args0 about1 = true := code_word (m := ⟨1, 3⟩) (meth := k1m3) (c := k1c3) (by decide +kernel) rfl rfl rfl (by decide +kernel)
set_option maxRecDepth 65536 in
theorem w_c1 : (Jvm.Cond.code ({ cls := "com/example/couplet/couplet/core/LocalOverrideNamedPinLaw", name := "build", desc := "([CI)Ljava/lang/String;" } : Jvm.MethodName) method_3_code (2 : Nat) (Option.some (Jvm.ClassFile.FieldType.object "java/lang/String"))).before args0 about1 = true := code_word (m := ⟨1, 2⟩) (meth := k1m2) (c := k1c2) (by decide +kernel) rfl rfl rfl (by decide +kernel)
set_option maxRecDepth 65536 in
theorem w_c2 : (Jvm.Cond.code ({ cls := "java/lang/String", name := "<init>", desc := "([C)V" } : Jvm.MethodName) jdk_42_method_3_code (2 : Nat) (Option.none : Option Jvm.ClassFile.FieldType)).before args0 about1 = true := code_word (m := ⟨7, 1⟩) (meth := k7m1) (c := k7c1) (by decide +kernel) rfl rfl rfl (by decide +kernel)
set_option maxRecDepth 65536 in
theorem w_c3 : (Jvm.Cond.code ({ cls := "java/lang/String", name := "<init>", desc := "([CIILjava/lang/Void;)V" } : Jvm.MethodName) jdk_42_method_149_code (6 : Nat) (Option.none : Option Jvm.ClassFile.FieldType)).before args0 about1 = true := code_word (m := ⟨7, 3⟩) (meth := k7m3) (c := k7c3) (by decide +kernel) rfl rfl rfl (by decide +kernel)
set_option maxRecDepth 65536 in
theorem w_c4 : (Jvm.Cond.code ({ cls := "java/lang/Object", name := "<init>", desc := "()V" } : Jvm.MethodName) object_method_1_code (1 : Nat) (Option.none : Option Jvm.ClassFile.FieldType)).before args0 about1 = true := code_word (m := ⟨0, 0⟩) (meth := k0m0) (c := k0c0) (by decide +kernel) rfl rfl rfl (by decide +kernel)
set_option maxRecDepth 65536 in
theorem w_c5 : (Jvm.Cond.code ({ cls := "java/lang/StringUTF16", name := "compress", desc := "([CII)[B" } : Jvm.MethodName) jdk_52_method_16_code (6 : Nat) (Option.some (Jvm.ClassFile.FieldType.array Jvm.ClassFile.FieldType.byte))).before args0 about1 = true := code_word (m := ⟨8, 2⟩) (meth := k8m2) (c := k8c2) (by decide +kernel) rfl rfl rfl (by decide +kernel)
set_option maxRecDepth 65536 in
theorem w_c6 : (Jvm.Cond.code ({ cls := "java/lang/StringUTF16", name := "compress", desc := "([CI[BII)I" } : Jvm.MethodName) jdk_52_method_21_code (7 : Nat) (Option.some Jvm.ClassFile.FieldType.int)).before args0 about1 = true := code_word (m := ⟨8, 3⟩) (meth := k8m3) (c := k8c3) (by decide +kernel) rfl rfl rfl (by decide +kernel)
set_option maxRecDepth 65536 in
theorem w_c7 : (Jvm.Cond.code ({ cls := "java/lang/StringUTF16", name := "coderFromArrayLen", desc := "([BI)B" } : Jvm.MethodName) jdk_52_method_15_code (2 : Nat) (Option.some Jvm.ClassFile.FieldType.byte)).before args0 about1 = true := code_word (m := ⟨8, 1⟩) (meth := k8m1) (c := k8c1) (by decide +kernel) rfl rfl rfl (by decide +kernel)
set_option maxRecDepth 65536 in
theorem w_c8 : (Jvm.Cond.code ({ cls := "java/lang/String", name := "equals", desc := "(Ljava/lang/Object;)Z" } : Jvm.MethodName) jdk_42_method_66_code (3 : Nat) (Option.some Jvm.ClassFile.FieldType.boolean)).before args0 about1 = true := code_word (m := ⟨7, 2⟩) (meth := k7m2) (c := k7c2) (by decide +kernel) rfl rfl rfl (by decide +kernel)
set_option maxRecDepth 65536 in
theorem w_c9 : (Jvm.Cond.code ({ cls := "java/lang/StringLatin1", name := "equals", desc := "([B[B)Z" } : Jvm.MethodName) jdk_43_method_13_code (3 : Nat) (Option.some Jvm.ClassFile.FieldType.boolean)).before args0 about1 = true := code_word (m := ⟨9, 1⟩) (meth := k9m1) (c := k9c1) (by decide +kernel) rfl rfl rfl (by decide +kernel)
set_option maxRecDepth 65536 in
theorem w_c10 : (Jvm.Cond.code ({ cls := "com/example/couplet/couplet/core/LocalOverride", name := "named", desc := "(Ljava/lang/String;)Lcom/example/couplet/couplet/core/LocalOverride;" } : Jvm.MethodName) prog_17_method_4_code (5 : Nat) (Option.some (Jvm.ClassFile.FieldType.object "com/example/couplet/couplet/core/LocalOverride"))).before args0 about1 = true := code_word (m := ⟨11, 1⟩) (meth := k11m1) (c := k11c1) (by decide +kernel) rfl rfl rfl (by decide +kernel)
set_option maxRecDepth 65536 in
theorem w_c11 : (Jvm.Cond.code ({ cls := "com/example/couplet/couplet/core/LocalOverride", name := "values", desc := "()[Lcom/example/couplet/couplet/core/LocalOverride;" } : Jvm.MethodName) prog_17_method_1_code (0 : Nat) (Option.some (Jvm.ClassFile.FieldType.array (Jvm.ClassFile.FieldType.object "com/example/couplet/couplet/core/LocalOverride")))).before args0 about1 = true := code_word (m := ⟨11, 0⟩) (meth := k11m0) (c := k11c0) (by decide +kernel) rfl rfl rfl (by decide +kernel)
set_option maxRecDepth 65536 in
theorem w_c12 : (Jvm.Cond.code ({ cls := "com/example/couplet/couplet/core/LocalOverrideNamedPinLaw", name := "template", desc := "(I)[C" } : Jvm.MethodName) method_2_code (1 : Nat) (Option.some (Jvm.ClassFile.FieldType.array Jvm.ClassFile.FieldType.char))).before args0 about1 = true := code_word (m := ⟨1, 1⟩) (meth := k1m1) (c := k1c1) (by decide +kernel) rfl rfl rfl (by decide +kernel)
def codes1 : List Jvm.Cond := [Jvm.Cond.code x code maxLocals ret, Jvm.Cond.code ({ cls := "com/example/couplet/couplet/core/LocalOverrideNamedPinLaw", name := "build", desc := "([CI)Ljava/lang/String;" } : Jvm.MethodName) method_3_code (2 : Nat) (Option.some (Jvm.ClassFile.FieldType.object "java/lang/String")), Jvm.Cond.code ({ cls := "java/lang/String", name := "<init>", desc := "([C)V" } : Jvm.MethodName) jdk_42_method_3_code (2 : Nat) (Option.none : Option Jvm.ClassFile.FieldType), Jvm.Cond.code ({ cls := "java/lang/String", name := "<init>", desc := "([CIILjava/lang/Void;)V" } : Jvm.MethodName) jdk_42_method_149_code (6 : Nat) (Option.none : Option Jvm.ClassFile.FieldType), Jvm.Cond.code ({ cls := "java/lang/Object", name := "<init>", desc := "()V" } : Jvm.MethodName) object_method_1_code (1 : Nat) (Option.none : Option Jvm.ClassFile.FieldType), Jvm.Cond.code ({ cls := "java/lang/StringUTF16", name := "compress", desc := "([CII)[B" } : Jvm.MethodName) jdk_52_method_16_code (6 : Nat) (Option.some (Jvm.ClassFile.FieldType.array Jvm.ClassFile.FieldType.byte)), Jvm.Cond.code ({ cls := "java/lang/StringUTF16", name := "compress", desc := "([CI[BII)I" } : Jvm.MethodName) jdk_52_method_21_code (7 : Nat) (Option.some Jvm.ClassFile.FieldType.int), Jvm.Cond.code ({ cls := "java/lang/StringUTF16", name := "coderFromArrayLen", desc := "([BI)B" } : Jvm.MethodName) jdk_52_method_15_code (2 : Nat) (Option.some Jvm.ClassFile.FieldType.byte), Jvm.Cond.code ({ cls := "java/lang/String", name := "equals", desc := "(Ljava/lang/Object;)Z" } : Jvm.MethodName) jdk_42_method_66_code (3 : Nat) (Option.some Jvm.ClassFile.FieldType.boolean), Jvm.Cond.code ({ cls := "java/lang/StringLatin1", name := "equals", desc := "([B[B)Z" } : Jvm.MethodName) jdk_43_method_13_code (3 : Nat) (Option.some Jvm.ClassFile.FieldType.boolean), Jvm.Cond.code ({ cls := "com/example/couplet/couplet/core/LocalOverride", name := "named", desc := "(Ljava/lang/String;)Lcom/example/couplet/couplet/core/LocalOverride;" } : Jvm.MethodName) prog_17_method_4_code (5 : Nat) (Option.some (Jvm.ClassFile.FieldType.object "com/example/couplet/couplet/core/LocalOverride")), Jvm.Cond.code ({ cls := "com/example/couplet/couplet/core/LocalOverride", name := "values", desc := "()[Lcom/example/couplet/couplet/core/LocalOverride;" } : Jvm.MethodName) prog_17_method_1_code (0 : Nat) (Option.some (Jvm.ClassFile.FieldType.array (Jvm.ClassFile.FieldType.object "com/example/couplet/couplet/core/LocalOverride"))), Jvm.Cond.code ({ cls := "com/example/couplet/couplet/core/LocalOverrideNamedPinLaw", name := "template", desc := "(I)[C" } : Jvm.MethodName) method_2_code (1 : Nat) (Option.some (Jvm.ClassFile.FieldType.array Jvm.ClassFile.FieldType.char))]
set_option maxRecDepth 65536 in
theorem codes_eq : words1.filter isCode = codes1 := rfl
theorem w_codes : ∀ c ∈ words1.filter isCode, c.before args0 about1 = true := by
  rw [codes_eq]
  intro c hc
  simp only [codes1, List.mem_cons, List.not_mem_nil, or_false] at hc
  rcases hc with rfl | rfl | rfl | rfl | rfl | rfl | rfl | rfl | rfl | rfl | rfl | rfl | rfl
  · exact w_c0
  · exact w_c1
  · exact w_c2
  · exact w_c3
  · exact w_c4
  · exact w_c5
  · exact w_c6
  · exact w_c7
  · exact w_c8
  · exact w_c9
  · exact w_c10
  · exact w_c11
  · exact w_c12
set_option maxRecDepth 65536 in
theorem w_t1 : (words1.take 24).all (fun c => isCode c || c.before args0 about1) = true := by decide +kernel
set_option maxRecDepth 65536 in
theorem w_t2 : ((words1.drop 24).take 24).all (fun c => isCode c || c.before args0 about1) = true := by decide +kernel
set_option maxRecDepth 65536 in
theorem w_t3 : (((words1.drop 24).drop 24).take 24).all (fun c => isCode c || c.before args0 about1) = true := by decide +kernel
set_option maxRecDepth 65536 in
theorem w_t4 : (((words1.drop 24).drop 24).drop 24).all (fun c => isCode c || c.before args0 about1) = true := by decide +kernel
theorem w_tables : (allAtoms (Jvm.Cond.code x code maxLocals ret :: tables_1)).before args0 about1 = true := by
  rw [allAtoms_all]
  show words1.all (fun c => c.before args0 about1) = true
  refine all_split ?_ w_codes
  rw [← List.take_append_drop 24 words1, List.all_append, w_t1, ← List.take_append_drop 24 (words1.drop 24), List.all_append, w_t2, ← List.take_append_drop 24 ((words1.drop 24).drop 24), List.all_append, w_t3, w_t4]
  rfl
set_option maxRecDepth 65536 in
theorem w_rest : rest_1_c.before args0 about1 = true := by decide +kernel
set_option maxRecDepth 65536 in
theorem w_case : (Jvm.Cond.and given_1 narrow_1).before args0 about1 = true := by decide +kernel
set_option maxRecDepth 65536 in
theorem w_consts : constsHeld consts_1 about1 := Jvm.Lit.constsHeldB_iff.mp (by decide +kernel)
theorem w_applies : (headSpec (Jvm.Cond.code x code maxLocals ret :: tables_1) room_1).applies x e0.platform about1 = true :=
  (Spec.applies_iff w_frames).mpr ⟨w_running, w_runnable, w_alone, w_named, w_hears, w_ripe, w_room, w_tables⟩
theorem atStart : AtStart classFile x code maxLocals ret World_1 tables_1 room_1 Calls_1 rest_1 Pre_1 launch0 p0 e0 about1 theMethod args0 below0 :=
  ⟨lists_1, trivial, launch0.admits_env _ _ _, launch0.least_env, fairChoices_fair.cas, fairChoices_fair.clock, w_frames, w_args, w_heap, w_applies, ⟨w_consts, trivial⟩, w_rest, w_case⟩
end start1
theorem witness_1 : WitnessClaimed_1 := ⟨start1.p0, start1.e0, start1.about1, start1.theMethod, start1.args0, start1.below0, start1.atStart⟩
end Jvm.Pilot.@@N@@
